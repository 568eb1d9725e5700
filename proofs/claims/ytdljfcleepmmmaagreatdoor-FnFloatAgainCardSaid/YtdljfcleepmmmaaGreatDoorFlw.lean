/-
  The walk of FnFloatAgain.
-/
import Derived.Test.YtdljfcleepmmmaaGreatDoorPf
namespace Go.Proofs.YtdljfcleepmmmaaGreatDoor.Own
open Go.RowKit Go.Extern
theorem bits_run (n : Nat) (w : World) : (callFunc 6 #[.float .f64 n]).run Tryz.prog w = .ok (.value (.int .u64 n)) w := by
  have h := @run_callFunc_extern Tryz.prog 6 _ Extern.MathFloatBits.float64bits Tryz.func6 (by kernel_rfl) (by kernel_rfl) (by kernel_rfl) (by kernel_rfl)
  rw [h]
  rfl
theorem from_run (n : Nat) (w : World) : (callFunc 4 #[.int .u64 n]).run Tryz.prog w = .ok (.value (.float .f64 n)) w := by
  have h := @run_callFunc_extern Tryz.prog 4 _ Extern.MathFloatBits.float64frombits Tryz.func4 (by kernel_rfl) (by kernel_rfl) (by kernel_rfl) (by kernel_rfl)
  rw [h]
  rfl
set_option maxHeartbeats 4000000 in
set_option maxRecDepth 100000 in
theorem fin_walk (b : Nat) (h0 : 0 < b) (hf : Fin b) (w : World) : Calls Tryz.prog 3 #[.int .u64 b] w fun e w' => e = .returned (.bool true) ∧ Below w.heap.size w w' := by
  have hb := bits_run
  have hfr := from_run
  have t0 : ((b : Int) == 0) = false := by simp; omega
  have t0' : ((b : Int) != 0) = true := by simp; omega
  have t1 : (FloatKind.f64.format.order b b != some Ordering.eq) = false := by rw [show FloatKind.f64.format.order b b = some .eq from order_self b hf]; rfl
  have t2 : (FloatKind.f64.format.order b 9218868437227405311 == some Ordering.gt) = false := by rw [beq_eq_false_iff_ne]; exact order_max b hf
  obtain ⟨nb, hnb, hneg⟩ : ∃ nb, Fin nb ∧ ∀ w, (Op.unary UnOp.neg (Value.float FloatKind.f64 b)).run Tryz.prog w = .ok (.float .f64 nb) w := ⟨Op.negFloat .f64 b, neg_fin b hf, fun _ => rfl⟩
  have t3 : (FloatKind.f64.format.order nb 9218868437227405311 == some Ordering.gt) = false := by rw [beq_eq_false_iff_ne]; exact order_max nb hnb
  clear hnb hf
  go_enter Tryz.func3, Tryz.ntmps3
  go_wp2
  go_ret
  exact ⟨rfl, by repeat (first | exact Below.refl _ _ | refine Below.alloc ?_ (by simp <;> omega) _)⟩
set_option maxHeartbeats 4000000 in
set_option maxRecDepth 100000 in
theorem nan_walk (b : Nat) (hn : 9218868437227405312 < b % 9223372036854775808) (w : World) : Calls Tryz.prog 3 #[.int .u64 b] w fun e w' => e = .returned (.bool true) ∧ Below w.heap.size w w' := by
  have hb := bits_run
  have hfr := from_run
  have t0 : ((b : Int) == 0) = false := by simp; omega
  have t1 : (FloatKind.f64.format.order b b != some Ordering.eq) = true := by rw [show FloatKind.f64.format.order b b = none from order_nan b hn]; rfl
  have hfn : ∀ w, (callFunc 4 #[.int .u64 9221120237041090561]).run Tryz.prog w = .ok (.value (.float .f64 9221120237041090561)) w := from_run 9221120237041090561
  have t2 : (FloatKind.f64.format.order 9221120237041090561 9221120237041090561 != some Ordering.eq) = true := by decide
  clear hn
  go_enter Tryz.func3, Tryz.ntmps3
  go_wp2
  go_ret
  exact ⟨rfl, by repeat (first | exact Below.refl _ _ | refine Below.alloc ?_ (by simp <;> omega) _)⟩
set_option maxHeartbeats 4000000 in
set_option maxRecDepth 100000 in
theorem pinf_walk (w : World) : Calls Tryz.prog 3 #[.int .u64 9218868437227405312] w fun e w' => e = .returned (.bool true) ∧ Below w.heap.size w w' := by
  have hb := bits_run
  have hfr := from_run
  have hfn : ∀ w, (callFunc 4 #[.int .u64 9218868437227405312]).run Tryz.prog w = .ok (.value (.float .f64 9218868437227405312)) w := from_run 9218868437227405312
  have hbn : ∀ w, (callFunc 6 #[.float .f64 9218868437227405312]).run Tryz.prog w = .ok (.value (.int .u64 9218868437227405312)) w := bits_run 9218868437227405312
  have hng : ∀ w, (Op.unary UnOp.neg (Value.float FloatKind.f64 9218868437227405312)).run Tryz.prog w = .ok (.float .f64 18442240474082181120) w := fun _ => by kernel_rfl
  have t1 : (FloatKind.f64.format.order 9218868437227405312 9218868437227405312 != some Ordering.eq) = false := by decide
  have t2 : (FloatKind.f64.format.order 9218868437227405312 9218868437227405311 == some Ordering.gt) = true := by decide
  have t3 : (FloatKind.f64.format.order 18442240474082181120 9218868437227405311 == some Ordering.gt) = false := by decide
  go_enter Tryz.func3, Tryz.ntmps3
  go_wp2
  go_ret
  exact ⟨rfl, by repeat (first | exact Below.refl _ _ | refine Below.alloc ?_ (by simp <;> omega) _)⟩
set_option maxHeartbeats 4000000 in
set_option maxRecDepth 100000 in
theorem ninf_walk (w : World) : Calls Tryz.prog 3 #[.int .u64 18442240474082181120] w fun e w' => e = .returned (.bool true) ∧ Below w.heap.size w w' := by
  have hb := bits_run
  have hfr := from_run
  have hfn : ∀ w, (callFunc 4 #[.int .u64 18442240474082181120]).run Tryz.prog w = .ok (.value (.float .f64 18442240474082181120)) w := from_run 18442240474082181120
  have hbn : ∀ w, (callFunc 6 #[.float .f64 18442240474082181120]).run Tryz.prog w = .ok (.value (.int .u64 18442240474082181120)) w := bits_run 18442240474082181120
  have hng : ∀ w, (Op.unary UnOp.neg (Value.float FloatKind.f64 18442240474082181120)).run Tryz.prog w = .ok (.float .f64 9218868437227405312) w := fun _ => by kernel_rfl
  have t1 : (FloatKind.f64.format.order 18442240474082181120 18442240474082181120 != some Ordering.eq) = false := by decide
  have t2 : (FloatKind.f64.format.order 18442240474082181120 9218868437227405311 == some Ordering.gt) = false := by decide
  have t3 : (FloatKind.f64.format.order 9218868437227405312 9218868437227405311 == some Ordering.gt) = true := by decide
  go_enter Tryz.func3, Tryz.ntmps3
  go_wp2
  go_ret
  exact ⟨rfl, by repeat (first | exact Below.refl _ _ | refine Below.alloc ?_ (by simp <;> omega) _)⟩
set_option maxHeartbeats 4000000 in
set_option maxRecDepth 100000 in
theorem int5 (w : World) : Calls Tryz.prog 7 #[.float .f64 0] w fun e w' => ∃ g, e = .returned (.agg #[.pointer (some ⟨g, 0, none⟩), .string ⟨#[]⟩, .int .u64 0]) ∧ Zero w' w.heap.size g ∧ Below w.heap.size w w' := by
  have hbn : ∀ w, (callFunc 6 #[.float .f64 0]).run Tryz.prog w = .ok (.value (.int .u64 0)) w := bits_run 0
  go_enter Tryz.func7, Tryz.ntmps7
  go_wp2_with fail
  have hb0 := (Below.refl w.heap.size w).alloc (Nat.le_refl _) (Obj.cells #[Value.pointer none, Value.string { data := #[] }, Value.int IntKind.u64 0] 36)
  have e0 := heap_alloc_new w (Obj.cells #[Value.pointer none, Value.string { data := #[] }, Value.int IntKind.u64 0] 36)
  refine (zero8 _).mono ?_
  rintro e w1 ⟨g, rfl, hz, hb⟩
  have hs0 : (w.alloc (Obj.cells #[Value.pointer none, Value.string { data := #[] }, Value.int IntKind.u64 0] 36)).heap.size = w.heap.size + 1 := by simp
  rw [hs0] at hz
  have lift : ∀ (j : Nat) v, #[Value.pointer none, Value.string { data := #[] }, Value.int IntKind.u64 0][j]? = some v → w1.cell? ⟨w.heap.size, j, none⟩ = some v := fun j v h => by
    rw [hb.cell (p := ⟨w.heap.size, j, none⟩) (by rw [hs0]; exact Nat.lt_succ_self _), cell_of_row _ _ j _ _ (0, 0) e0]
    exact h
  have hfr : ∀ j : Nat, w1.frozen? ⟨w.heap.size, j, none⟩ = false := fun j => by
    rw [hb.frozen (p := ⟨w.heap.size, j, none⟩) (by rw [hs0]; exact Nat.lt_succ_self _)]
    unfold World.frozen?
    simp only [e0]
    simp
  have c0 := lift 0 _ rfl
  have c1 := lift 1 _ rfl
  have c2 := lift 2 _ rfl
  have f0 := hfr 0
  have f1 := hfr 1
  have f2 := hfr 2
  have E := Lib.hid (And.intro hz (And.intro hb hb0))
  clear hz hb hb0 e0 lift hfr hs0
  go_wp2_with fail
  have d0 : (((w1.setCell { block := w.heap.size, off := 0 } (Value.pointer (some { block := g, off := 0 }))).setCell { block := w.heap.size, off := 1 } (Value.string { data := #[] })).setCell { block := w.heap.size, off := 2 } (Value.int IntKind.u64 0)).cell? ⟨w.heap.size, 0, none⟩ = some (Value.pointer (some { block := g, off := 0 })) := by
    rw [World.cell?_setCell_other _ _ _ _ (by simp), World.cell?_setCell_other _ _ _ _ (by simp), World.cell?_setCell_same _ _ _ c0]
  have d1 : (((w1.setCell { block := w.heap.size, off := 0 } (Value.pointer (some { block := g, off := 0 }))).setCell { block := w.heap.size, off := 1 } (Value.string { data := #[] })).setCell { block := w.heap.size, off := 2 } (Value.int IntKind.u64 0)).cell? ⟨w.heap.size, 1, none⟩ = some (Value.string { data := #[] }) := by
    rw [World.cell?_setCell_other _ _ _ _ (by simp), World.cell?_setCell_same _ _ _ (u := .string { data := #[] }) (by rw [World.cell?_setCell_other _ _ _ _ (by simp)]; exact c1)]
  have d2 : (((w1.setCell { block := w.heap.size, off := 0 } (Value.pointer (some { block := g, off := 0 }))).setCell { block := w.heap.size, off := 1 } (Value.string { data := #[] })).setCell { block := w.heap.size, off := 2 } (Value.int IntKind.u64 0)).cell? ⟨w.heap.size, 2, none⟩ = some (Value.int IntKind.u64 0) := by
    rw [World.cell?_setCell_same _ _ _ (u := .int .u64 0) (by rw [World.cell?_setCell_other _ _ _ _ (by simp), World.cell?_setCell_other _ _ _ _ (by simp)]; exact c2)]
  obtain ⟨hz, hb, hb0⟩ := E.out
  have far : ∀ (a : Addr) (v : Value), w.heap.size + 1 ≤ a.block → w1.cell? a = some v → (((w1.setCell { block := w.heap.size, off := 0 } (Value.pointer (some { block := g, off := 0 }))).setCell { block := w.heap.size, off := 1 } (Value.string { data := #[] })).setCell { block := w.heap.size, off := 2 } (Value.int IntKind.u64 0)).cell? a = some v := fun a v ha hv => by
    rw [World.cell?_setCell_other _ _ _ _ (fun e => by have h : w.heap.size = a.block := congrArg Addr.block e; omega), World.cell?_setCell_other _ _ _ _ (fun e => by have h : w.heap.size = a.block := congrArg Addr.block e; omega), World.cell?_setCell_other _ _ _ _ (fun e => by have h : w.heap.size = a.block := congrArg Addr.block e; omega)]
    exact hv
  refine bodyPost_ret (v := .agg #[.pointer (some ⟨g, 0, none⟩), .string ⟨#[]⟩, .int .u64 0]) (by simp [results, Tryz.results7, go_sem, d0, d1, d2]) rfl ⟨g, rfl, ?_, ?_⟩
  · obtain ⟨hg, b, c, hbb, h1, h2, h3, h4, h5, h6⟩ := hz
    exact ⟨by omega, b, c, by omega, far _ _ hg h1, h2, far _ _ hg h3, far _ _ hg h4, far _ _ hg h5, far _ _ hbb h6⟩
  · exact ((((hb0.trans (hb.mono (by simp))).setCell (by simp) _).setCell (by simp) _).setCell (by simp) _)
set_option maxHeartbeats 4000000 in
set_option maxRecDepth 100000 in
theorem again4 (w : World) (hO : w.cell? ⟨6, 0, none⟩ = some (.bool true)) (hK : w.cell? ⟨3, 48, none⟩ = some (.int .u8 48)) : Calls Tryz.prog 5 #[.float .f64 0] w fun e w' => e = .returned (.tuple #[.float .f64 0, .int .i64 0]) ∧ Below w.heap.size w w' := by
  have KO := Lib.hid hO
  have KK := Lib.hid hK
  clear hO hK
  go_enter Tryz.func5, Tryz.ntmps5
  go_wp2_with fail
  refine (int5 _).mono ?_
  rintro e w1 ⟨g, rfl, hz, hb⟩
  have Z := Lib.hid hz
  have B := Lib.hid hb
  clear hz hb
  go_wp2_with fail
  refine (Float_raw g _ _ Z.out ((B.out.cell (World.block_lt_of_cell? _ _ KO.out)).trans KO.out) ((B.out.cell (World.block_lt_of_cell? _ _ KK.out)).trans KK.out)).mono ?_
  rintro e w2 ⟨rfl, hb2⟩
  have B2 := Lib.hid hb2
  clear hb2
  go_wp2
  go_ret2
  exact ⟨rfl, B.out.trans (B2.out.mono B.out.size)⟩
set_option maxHeartbeats 4000000 in
set_option maxRecDepth 100000 in
theorem zero_walk (w : World) (hO : w.cell? ⟨6, 0, none⟩ = some (.bool true)) (hK : w.cell? ⟨3, 48, none⟩ = some (.int .u8 48)) : Calls Tryz.prog 3 #[.int .u64 0] w fun e w' => e = .returned (.bool true) ∧ Below w.heap.size w w' := by
  have hfr : ∀ w, (callFunc 4 #[.int .u64 0]).run Tryz.prog w = .ok (.value (.float .f64 0)) w := from_run 0
  have hbn : ∀ w, (callFunc 6 #[.float .f64 0]).run Tryz.prog w = .ok (.value (.int .u64 0)) w := bits_run 0
  have t1 : (FloatKind.f64.format.order 0 0 != some Ordering.eq) = false := by decide
  have A := Lib.hid (again4 w hO hK)
  clear hO hK
  go_enter Tryz.func3, Tryz.ntmps3
  go_wp2_with fail
  refine A.out.mono ?_
  rintro e w1 ⟨rfl, hb⟩
  have B := Lib.hid hb
  clear hb
  go_wp2_with fail
  go_ret
  exact ⟨rfl, B.out⟩
end Go.Proofs.YtdljfcleepmmmaaGreatDoor.Own
