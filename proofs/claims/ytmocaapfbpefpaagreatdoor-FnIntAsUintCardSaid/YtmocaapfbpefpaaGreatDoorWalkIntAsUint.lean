/-
  The walk of FnIntAsUint.
-/
import Derived.Test.YtmocaapfbpefpaaGreatDoorTok
import Derived.Test.YtmocaapfbpefpaaGreatDoorStr
import Derived.Test.YtmocaapfbpefpaaGreatDoorLaid
namespace Go.Proofs.YtmocaapfbpefpaaGreatDoor.Own.IntAsUint
open Go.RowKit
theorem wrap_same (n : Int) (h1 : 0 ≤ n) (h2 : n ≤ 9223372036854775807) : IntKind.u64.wrap n = n := by
  have e : IntKind.u64.wrap n = n % 18446744073709551616 := by
    simp [IntKind.wrap, IntKind.signed, IntKind.bits]
  rw [e]
  omega
theorem wrap64_same (n : Int) (h1 : 0 ≤ n) (h2 : n ≤ 9223372036854775807) : wrap64 n = n := by unfold wrap64; omega
theorem wrap_below (n : Int) (h1 : -9223372036854775808 ≤ n) (h2 : n < 0) : IntKind.u64.wrap n = n + 18446744073709551616 := by
  have e : IntKind.u64.wrap n = n % 18446744073709551616 := by
    simp [IntKind.wrap, IntKind.signed, IntKind.bits]
  rw [e]
  omega
set_option maxHeartbeats 4000000 in
set_option maxRecDepth 100000 in
theorem pos_walk (n : Int) (h0 : 0 < n) (h2 : n ≤ 9223372036854775807) (w : World) : Calls Tryz.prog 3 #[.int .i64 n] w fun e w' => e = .returned (.bool true) ∧ Below w.heap.size w w' := by
  have e := wrap_same n (by omega) h2
  have e2 := wrap64_same n (by omega) h2
  have t1 : (n == 0) = false := by simp; omega
  have t3 : (n != 0) = true := by simp; omega
  have t4 : ¬ n < 0 := by omega
  clear h0 h2
  go_enter Tryz.func3, Tryz.ntmps3
  go_wp2
  go_ret
  exact ⟨rfl, ((Below.refl _ _).alloc (Nat.le_refl _) _).alloc (by simp) _⟩
set_option maxHeartbeats 4000000 in
set_option maxRecDepth 100000 in
theorem ctor_neg (n : Int) (h0 : n < 0) (w : World) : Calls Tryz.prog 7 #[.int .i64 n] w fun e w' => e = .returned (.agg #[.pointer none, .string ⟨#[105]⟩, .int .u64 (IntKind.u64.wrap n)]) ∧ Below w.heap.size w w' := by
  have t1 : (n == 0) = false := by simp; omega
  clear h0
  go_enter Tryz.func7, Tryz.ntmps7
  go_wp2
  exact bodyPost_ret (v := .agg #[.pointer none, .string ⟨#[105]⟩, .int .u64 (IntKind.u64.wrap n)]) (by simp [results, Tryz.results7, go_sem]) rfl ⟨rfl, (Below.refl _ _).alloc (Nat.le_refl _) _⟩
set_option maxHeartbeats 4000000 in
set_option maxRecDepth 100000 in
theorem impl_neg (n : Int) (b : Addr) (h0 : n < 0) (h1 : -9223372036854775808 ≤ n) (w : World) (htab : Lib.TabIs Tryz.prog w "internal/strconv.uint64pow10" .u64 Lib.pow10Tab)
    (hE : w.cell? ⟨1, 0, none⟩ = some (.iface 159 (.pointer (some b)))) :
    Calls Tryz.prog 5 #[.int .i64 n] w fun e w' => e = .returned (.tuple #[.int .u64 0, .int .i64 1]) ∧ Below w.heap.size w w' := by
  have C := Lib.hid (ctor_neg n h0 w)
  have hw := wrap_below n h1 h0
  have U := Lib.hid (fun w1 ht hE => uint_neg (IntKind.u64.wrap n) n b (by rw [hw]; simp; omega) (by rw [hw]; simp; omega) (by rw [hw]; simp; omega) (by rw [hw]; unfold wrap64; omega) h0 h1 w1 ht hE)
  have T := Lib.hid (And.intro htab hE)
  clear htab hE h0 h1 hw
  go_enter Tryz.func5, Tryz.ntmps5
  go_wp2_with fail
  refine C.out.mono ?_
  rintro e w1 ⟨rfl, hb⟩
  have B := Lib.hid hb
  clear hb
  go_wp2_with fail
  refine (U.out _ (tab_below T.out.1 B.out) ((B.out.cell (World.block_lt_of_cell? _ _ T.out.2)).trans T.out.2)).mono ?_
  rintro e w2 ⟨pb, rfl, hc, hb2⟩
  have B2 := Lib.hid (And.intro hc hb2)
  clear hc hb2
  go_wp2_with fail
  have hE2 : w2.cell? ⟨1, 0, none⟩ = some (.iface 159 (.pointer (some b))) := by
    have h1 := (B.out.cell (World.block_lt_of_cell? _ _ T.out.2)).trans T.out.2
    exact (B2.out.2.cell (World.block_lt_of_cell? _ _ h1)).trans h1
  have FS := Lib.hid (fault_syntax pb b w2 B2.out.1 hE2)
  clear hE2
  refine FS.out.mono ?_
  rintro e w3 ⟨rfl, rfl⟩
  go_wp2_with fail
  go_ret2
  exact ⟨rfl, B.out.trans (B2.out.2.mono B.out.size)⟩
set_option maxHeartbeats 4000000 in
set_option maxRecDepth 100000 in
theorem neg_walk (n : Int) (b : Addr) (h0 : n < 0) (h1 : -9223372036854775808 ≤ n) (w : World) (htab : Lib.TabIs Tryz.prog w "internal/strconv.uint64pow10" .u64 Lib.pow10Tab)
    (hE : w.cell? ⟨1, 0, none⟩ = some (.iface 159 (.pointer (some b)))) :
    Calls Tryz.prog 3 #[.int .i64 n] w fun e w' => e = .returned (.bool true) ∧ Below w.heap.size w w' := by
  have C := Lib.hid (impl_neg n b h0 h1 w htab hE)
  clear htab hE h1
  go_enter Tryz.func3, Tryz.ntmps3
  go_wp2_with fail
  refine C.out.mono ?_
  rintro e w1 ⟨rfl, hb⟩
  have B := Lib.hid hb
  clear hb
  go_wp2_with fail
  go_ret
  exact ⟨rfl, B.out⟩
set_option maxHeartbeats 4000000 in
set_option maxRecDepth 100000 in
theorem int6 (g base : Nat) (w : World) (hz : Zero w base g) : Calls Tryz.prog 8 #[.agg #[.pointer (some ⟨g, 0, none⟩), .string ⟨#[]⟩, .int .u64 0]] w fun e w' => e = .returned (.tuple #[.int .u64 0, .nilIface]) ∧ Below w.heap.size w w' := by
  have hz1 := hz.below ((Below.refl w.heap.size w).alloc (Nat.le_refl _) (.cells #[.pointer (some ⟨g, 0, none⟩), .string ⟨#[]⟩, .int .u64 0] 36))
  obtain ⟨hg, b, c, hb, h2, hc, h3, h4, h5, h6⟩ := hz1
  have e0 := heap_alloc_new w (.cells #[.pointer (some ⟨g, 0, none⟩), .string ⟨#[]⟩, .int .u64 0] 36)
  have E := Lib.hid e0
  have O := Lib.hid (fun n => off9 g ((w.alloc (.cells #[.pointer (some ⟨g, 0, none⟩), .string ⟨#[]⟩, .int .u64 0] 36)).drewN n) h3 h5)
  have Z := Lib.hid (And.intro h2 (And.intro h3 h4))
  clear hz e0 h2 h3 h4 h5
  go_enter Tryz.func8, Tryz.ntmps8
  go_wp2_with fail
  go_quiet ((go_at_call 13; exact Calls.quiet_of (O.out _)))
  go_wp2_with fail
  have B := Lib.hid (fun n => buf10 g b c ((w.alloc (.cells #[.pointer (some ⟨g, 0, none⟩), .string ⟨#[]⟩, .int .u64 0] 36)).drewN n) Z.out.1 hc Z.out.2.1 Z.out.2.2)
  have P := Lib.hid (fun n => parse11 b c ((w.alloc (.cells #[.pointer (some ⟨g, 0, none⟩), .string ⟨#[]⟩, .int .u64 0] 36)).drewN n) h6)
  refine (B.out _).mono ?_
  rintro e w' ⟨rfl, n, rfl⟩
  go_wp2_with fail
  refine (P.out _).mono ?_
  rintro e w' ⟨rfl, rfl⟩
  go_wp2_with fail
  go_ret2
  exact ⟨rfl, Go.below_drewN ((Below.refl _ _).alloc (Nat.le_refl _) _) _⟩
set_option maxHeartbeats 4000000 in
set_option maxRecDepth 100000 in
theorem int5 (w : World) : Calls Tryz.prog 7 #[.int .i64 0] w fun e w' => ∃ g, e = .returned (.agg #[.pointer (some ⟨g, 0, none⟩), .string ⟨#[]⟩, .int .u64 0]) ∧ Zero w' w.heap.size g ∧ Below w.heap.size w w' := by
  go_enter Tryz.func7, Tryz.ntmps7
  go_wp2_with fail
  have hb0 := (Below.refl w.heap.size w).alloc (Nat.le_refl _) (Obj.cells #[Value.pointer none, Value.string { data := #[] }, Value.int IntKind.u64 0] 36)
  have e0 := heap_alloc_new w (Obj.cells #[Value.pointer none, Value.string { data := #[] }, Value.int IntKind.u64 0] 36)
  refine (zero8 _).mono ?_
  rintro e w1 ⟨g, rfl, hz, hb⟩
  have hs0 : (w.alloc (Obj.cells #[Value.pointer none, Value.string { data := #[] }, Value.int IntKind.u64 0] 36)).heap.size = w.heap.size + 1 := by simp
  rw [hs0] at hz
  have lift : ∀ (j : Nat) v, #[Value.pointer none, Value.string { data := #[] }, Value.int IntKind.u64 0][j]? = some v → w1.cell? ⟨w.heap.size, j, none⟩ = some v := fun j v h => by
    rw [hb.cell (p := ⟨w.heap.size, j, none⟩) (by rw [hs0]; exact Nat.lt_succ_self _), cell_of_row _ _ j _ _ (0, 0) e0]
    exact h
  have hfr : ∀ j : Nat, w1.frozen? ⟨w.heap.size, j, none⟩ = false := fun j => by
    rw [hb.frozen (p := ⟨w.heap.size, j, none⟩) (by rw [hs0]; exact Nat.lt_succ_self _)]
    unfold World.frozen?
    simp only [e0]
    simp
  have c0 := lift 0 _ rfl
  have c1 := lift 1 _ rfl
  have c2 := lift 2 _ rfl
  have f0 := hfr 0
  have f1 := hfr 1
  have f2 := hfr 2
  have E := Lib.hid (And.intro hz (And.intro hb hb0))
  clear hz hb hb0 e0 lift hfr hs0
  go_wp2_with fail
  have d0 : (((w1.setCell { block := w.heap.size, off := 0 } (Value.pointer (some { block := g, off := 0 }))).setCell { block := w.heap.size, off := 1 } (Value.string { data := #[] })).setCell { block := w.heap.size, off := 2 } (Value.int IntKind.u64 0)).cell? ⟨w.heap.size, 0, none⟩ = some (Value.pointer (some { block := g, off := 0 })) := by
    rw [World.cell?_setCell_other _ _ _ _ (by simp), World.cell?_setCell_other _ _ _ _ (by simp), World.cell?_setCell_same _ _ _ c0]
  have d1 : (((w1.setCell { block := w.heap.size, off := 0 } (Value.pointer (some { block := g, off := 0 }))).setCell { block := w.heap.size, off := 1 } (Value.string { data := #[] })).setCell { block := w.heap.size, off := 2 } (Value.int IntKind.u64 0)).cell? ⟨w.heap.size, 1, none⟩ = some (Value.string { data := #[] }) := by
    rw [World.cell?_setCell_other _ _ _ _ (by simp), World.cell?_setCell_same _ _ _ (u := .string { data := #[] }) (by rw [World.cell?_setCell_other _ _ _ _ (by simp)]; exact c1)]
  have d2 : (((w1.setCell { block := w.heap.size, off := 0 } (Value.pointer (some { block := g, off := 0 }))).setCell { block := w.heap.size, off := 1 } (Value.string { data := #[] })).setCell { block := w.heap.size, off := 2 } (Value.int IntKind.u64 0)).cell? ⟨w.heap.size, 2, none⟩ = some (Value.int IntKind.u64 0) := by
    rw [World.cell?_setCell_same _ _ _ (u := .int .u64 0) (by rw [World.cell?_setCell_other _ _ _ _ (by simp), World.cell?_setCell_other _ _ _ _ (by simp)]; exact c2)]
  obtain ⟨hz, hb, hb0⟩ := E.out
  have far : ∀ (a : Addr) (v : Value), w.heap.size + 1 ≤ a.block → w1.cell? a = some v → (((w1.setCell { block := w.heap.size, off := 0 } (Value.pointer (some { block := g, off := 0 }))).setCell { block := w.heap.size, off := 1 } (Value.string { data := #[] })).setCell { block := w.heap.size, off := 2 } (Value.int IntKind.u64 0)).cell? a = some v := fun a v ha hv => by
    rw [World.cell?_setCell_other _ _ _ _ (fun e => by have h : w.heap.size = a.block := congrArg Addr.block e; omega), World.cell?_setCell_other _ _ _ _ (fun e => by have h : w.heap.size = a.block := congrArg Addr.block e; omega), World.cell?_setCell_other _ _ _ _ (fun e => by have h : w.heap.size = a.block := congrArg Addr.block e; omega)]
    exact hv
  refine bodyPost_ret (v := .agg #[.pointer (some ⟨g, 0, none⟩), .string ⟨#[]⟩, .int .u64 0]) (by simp [results, Tryz.results7, go_sem, d0, d1, d2]) rfl ⟨g, rfl, ?_, ?_⟩
  · obtain ⟨hg, b, c, hbb, h1, h2, h3, h4, h5, h6⟩ := hz
    exact ⟨by omega, b, c, by omega, far _ _ hg h1, h2, far _ _ hg h3, far _ _ hg h4, far _ _ hg h5, far _ _ hbb h6⟩
  · exact ((((hb0.trans (hb.mono (by simp))).setCell (by simp) _).setCell (by simp) _).setCell (by simp) _)
set_option maxHeartbeats 4000000 in
set_option maxRecDepth 100000 in
theorem again4 (w : World) : Calls Tryz.prog 5 #[.int .i64 0] w fun e w' => e = .returned (.tuple #[.int .u64 0, .int .i64 0]) ∧ Below w.heap.size w w' := by
  go_enter Tryz.func5, Tryz.ntmps5
  go_wp2_with fail
  refine (int5 _).mono ?_
  rintro e w1 ⟨g, rfl, hz, hb⟩
  have Z := Lib.hid hz
  have B := Lib.hid hb
  clear hz hb
  go_wp2_with fail
  refine (int6 g _ _ Z.out).mono ?_
  rintro e w2 ⟨rfl, hb2⟩
  have B2 := Lib.hid hb2
  clear hb2
  go_wp2
  go_ret2
  exact ⟨rfl, B.out.trans (B2.out.mono B.out.size)⟩
set_option maxHeartbeats 4000000 in
set_option maxRecDepth 100000 in
theorem zero_walk (w : World) : Calls Tryz.prog 3 #[.int .i64 0] w fun e w' => e = .returned (.bool true) ∧ Below w.heap.size w w' := by
  go_enter Tryz.func3, Tryz.ntmps3
  go_wp2_with fail
  refine (again4 _).mono ?_
  rintro e w1 ⟨rfl, hb⟩
  have B := Lib.hid hb
  clear hb
  go_wp2_with fail
  go_ret
  exact ⟨rfl, B.out⟩
end Go.Proofs.YtmocaapfbpefpaaGreatDoor.Own.IntAsUint
