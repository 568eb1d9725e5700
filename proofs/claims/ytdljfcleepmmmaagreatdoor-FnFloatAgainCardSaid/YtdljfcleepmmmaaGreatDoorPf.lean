/-
  strconv.ParseFloat at the text 0: 0, and no error.
-/
import Derived.Test.YtdljfcleepmmmaaGreatDoorTok
import Derived.Test.YtdljfcleepmmmaaGreatDoorFlt
namespace Go.Proofs.YtdljfcleepmmmaaGreatDoor.Own
open Go.RowKit Go.Extern
set_option maxHeartbeats 1000000 in
set_option maxRecDepth 100000 in
theorem special0 (w : World) : Calls Tryz.prog 57 #[.string ⟨#[48]⟩] w fun e w' => e = .returned (.tuple #[.float .f64 0, .int .i64 0, .bool false]) ∧ w = w' := by
  go_enter Tryz.func57, Tryz.ntmps57
  go_wp2
  go_ret3
  exact ⟨rfl, rfl⟩
set_option maxHeartbeats 1000000 in
set_option maxRecDepth 100000 in
theorem read0 (w : World) : Calls Tryz.prog 58 #[.string ⟨#[48]⟩] w fun e w' => e = .returned (.tuple #[.int .u64 0, .int .i64 0, .bool false, .bool false, .bool false, .int .i64 1, .bool true]) ∧ w = w' := by
  go_enter Tryz.func58, Tryz.ntmps58
  go_wp2_with fail
  go_step3
  go_wp2_with fail
  go_step3
  go_wp2_with fail
  refine wp_loop_rounds 2 ?_
  rw [rounds_succ]
  go_wp2_with fail
  rw [rounds_succ]
  go_wp2_with fail
  rw [Exit.noGoto_ret]
  exact bodyPost_ret (v := .tuple #[.int .u64 0, .int .i64 0, .bool false, .bool false, .bool false, .int .i64 1, .bool true]) (by simp [results, Tryz.results58, go_sem]) rfl ⟨rfl, rfl⟩
theorem frombits (n : Nat) (w : World) : (callFunc 67 #[.int .u64 n]).run Tryz.prog w = .ok (.value (.float .f64 n)) w := by
  have h := @run_callFunc_extern Tryz.prog 67 _ Extern.MathFloatBits.float64frombits Tryz.func67 (by kernel_rfl) (by kernel_rfl) (by kernel_rfl) (by kernel_rfl)
  rw [h]
  rfl
set_option maxHeartbeats 1000000 in
set_option maxRecDepth 100000 in
theorem atof0 (w : World) (hO : w.cell? ⟨6, 0, none⟩ = some (.bool true)) : Calls Tryz.prog 49 #[.string ⟨#[48]⟩] w fun e w' => e = .returned (.tuple #[.float .f64 0, .int .i64 1, .nilIface]) ∧ w = w' := by
  have hor : bits BinOp.or IntKind.u64 0 0 = 0 := by decide
  have hf : ∀ w, (callFunc 67 #[.int .u64 0]).run Tryz.prog w = .ok (.value (.float .f64 0)) w := frombits 0
  go_enter Tryz.func49, Tryz.ntmps49
  go_wp2_with fail
  refine (special0 _).mono ?_
  rintro e w' ⟨rfl, rfl⟩
  go_wp2_with fail
  refine (read0 _).mono ?_
  rintro e w' ⟨rfl, rfl⟩
  go_wp2
  go_ret3
  exact ⟨rfl, rfl⟩
set_option maxHeartbeats 1000000 in
set_option maxRecDepth 100000 in
theorem parse0 (w : World) (hO : w.cell? ⟨6, 0, none⟩ = some (.bool true)) : Calls Tryz.prog 24 #[.string ⟨#[48]⟩, .int .i64 64] w fun e w' => e = .returned (.tuple #[.float .f64 0, .nilIface]) ∧ w = w' := by
  have A := Lib.hid (atof0 w hO)
  clear hO
  go_enter Tryz.func24, Tryz.ntmps24
  go_wp2_with (first | (go_at_call 49; refine A.out.mono ?_; rintro e w' ⟨rfl, rfl⟩) | go_in)
  go_ret2
  exact ⟨rfl, rfl⟩
set_option maxHeartbeats 4000000 in
set_option maxRecDepth 100000 in
theorem float_raw (g base : Nat) (w : World) (hz : Zero w base g) (hO : w.cell? ⟨6, 0, none⟩ = some (.bool true)) (hK : w.cell? ⟨3, 48, none⟩ = some (.int .u8 48)) :
    Calls Tryz.prog 16 #[.agg #[.pointer (some ⟨g, 0, none⟩), .string ⟨#[]⟩, .int .u64 0], .int .i64 64] w fun e w' => e = .returned (.tuple #[.float .f64 0, .nilIface]) ∧ Below w.heap.size w w' := by
  have hz1 := hz.below ((Below.refl w.heap.size w).alloc (Nat.le_refl _) (.cells #[.pointer (some ⟨g, 0, none⟩), .string ⟨#[]⟩, .int .u64 0] 36))
  have hO1 := (World.cell?_alloc_lt w (.cells #[.pointer (some ⟨g, 0, none⟩), .string ⟨#[]⟩, .int .u64 0] 36) _ (World.block_lt_of_cell? w _ hO)).trans hO
  have hK1 := (World.cell?_alloc_lt w (.cells #[.pointer (some ⟨g, 0, none⟩), .string ⟨#[]⟩, .int .u64 0] 36) _ (World.block_lt_of_cell? w _ hK)).trans hK
  obtain ⟨hg, b, c, hb, h2, hc, h3, h4, h5, h6⟩ := hz1
  have O := Lib.hid (fun n => off9 g ((w.alloc (.cells #[.pointer (some ⟨g, 0, none⟩), .string ⟨#[]⟩, .int .u64 0] 36)).drewN n) h3 h5)
  have B := Lib.hid (fun n => buf10 g b c ((w.alloc (.cells #[.pointer (some ⟨g, 0, none⟩), .string ⟨#[]⟩, .int .u64 0] 36)).drewN n) h2 hc h3 h4)
  have P := Lib.hid (fun n => parse0 ((w.alloc (.cells #[.pointer (some ⟨g, 0, none⟩), .string ⟨#[]⟩, .int .u64 0] 36)).drewN n) hO1)
  have hst : ∀ n, (convert 48 9 (.slice (some ⟨b, 0, none⟩) 1 c)).run Tryz.prog ((w.alloc (.cells #[.pointer (some ⟨g, 0, none⟩), .string ⟨#[]⟩, .int .u64 0] 36)).drewN n) = .ok (.string ⟨#[48]⟩) ((w.alloc (.cells #[.pointer (some ⟨g, 0, none⟩), .string ⟨#[]⟩, .int .u64 0] 36)).drewN n) := fun n => run_convert_bytes_back (P := Tryz.prog) _ 48 9 5 ⟨b, 0, none⟩ c [48] Tryz.underlying48 Tryz.underlying5 Tryz.underlying9 (fun j hj => by
    obtain rfl : j = 0 := by simpa using hj
    exact h6)
  clear hz h2 h3 h4 h5 hO hK hO1
  go_enter Tryz.func16, Tryz.ntmps16
  go_wp2_with fail
  go_quiet ((go_at_call 21; exact Calls.quiet_of (O.out _)))
  go_wp2_with fail
  refine (B.out _).mono ?_
  rintro e w' ⟨rfl, n, rfl⟩
  go_wp2_with (first | (go_at_call 23; go_in))
  refine (P.out _).mono ?_
  rintro e w' ⟨rfl, rfl⟩
  go_wp2_with fail
  go_ret2
  exact ⟨rfl, Go.below_drewN ((Below.refl _ _).alloc (Nat.le_refl _) _) _⟩
set_option maxHeartbeats 1000000 in
set_option maxRecDepth 100000 in
theorem Float_raw (g base : Nat) (w : World) (hz : Zero w base g) (hO : w.cell? ⟨6, 0, none⟩ = some (.bool true)) (hK : w.cell? ⟨3, 48, none⟩ = some (.int .u8 48)) :
    Calls Tryz.prog 8 #[.agg #[.pointer (some ⟨g, 0, none⟩), .string ⟨#[]⟩, .int .u64 0]] w fun e w' => e = .returned (.tuple #[.float .f64 0, .nilIface]) ∧ Below w.heap.size w w' := by
  have hz1 := hz.below ((Below.refl w.heap.size w).alloc (Nat.le_refl _) (.cells #[.pointer (some ⟨g, 0, none⟩), .string ⟨#[]⟩, .int .u64 0] 36))
  have hO1 := (World.cell?_alloc_lt w (.cells #[.pointer (some ⟨g, 0, none⟩), .string ⟨#[]⟩, .int .u64 0] 36) _ (World.block_lt_of_cell? w _ hO)).trans hO
  have hK1 := (World.cell?_alloc_lt w (.cells #[.pointer (some ⟨g, 0, none⟩), .string ⟨#[]⟩, .int .u64 0] 36) _ (World.block_lt_of_cell? w _ hK)).trans hK
  have F := Lib.hid (float_raw g base _ hz1 hO1 hK1)
  clear hz hz1 hO hK hO1 hK1
  go_enter Tryz.func8, Tryz.ntmps8
  go_wp2_with fail
  go_outline
  refine F.out.mono ?_
  rintro e w' ⟨rfl, hb⟩
  go_wp2_with fail
  go_ret2
  exact ⟨rfl, ((Below.refl _ _).alloc (Nat.le_refl _) _).trans (hb.mono (by simp))⟩
end Go.Proofs.YtdljfcleepmmmaaGreatDoor.Own
