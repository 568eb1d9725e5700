/-
  The text of a token of a whole number, and the error that a reading of it gives.
-/
import Derived.Test.YtmocaapfbpefpaaGreatDoorTok
import Derived.Test.YtmocaapfbpefpaaGreatDoorIs
import Derived.Test.YtmocaapfbpefpaaGreatDoorFmt
import Derived.Deep.RegionWith
namespace Go.Proofs.YtmocaapfbpefpaaGreatDoor.Own
open Go.RowKit
def SomeStr (w : World) (e : Ending) (w' : World) : Prop := (∃ s, e = .returned (.string s)) ∧ Below w.heap.size w w'
def SomeStr2 (w : World) (e : Ending) (w' : World) : Prop := (∃ s, e = .returned (.tuple #[.string s, .slice none 0 0])) ∧ Below w.heap.size w w'
/-- An error of the package's own number type that wraps the sentinel at b. -/
def NumErr (k : IntKind) (v : Int) (b : Addr) (w : World) (e : Ending) (w' : World) : Prop :=
  ∃ pb, e = .returned (.tuple #[.int k v, .iface 49 (.pointer (some ⟨pb, 0, none⟩))]) ∧ w'.cell? ⟨pb, 2, none⟩ = some (.iface 159 (.pointer (some b))) ∧ Below w.heap.size w w'
set_option maxHeartbeats 1000000 in
set_option maxRecDepth 100000 in
theorem string2_i (u n : Int) (h0 : (u == 0) = false) (h1 : decide (0 < u) = true) (h2 : wrap64 u = n) (hlo : -9223372036854775808 ≤ n) (hhi : n ≤ 9223372036854775807) (w : World) (htab : Lib.TabIs Tryz.prog w "internal/strconv.uint64pow10" .u64 Lib.pow10Tab) :
    Calls Tryz.prog 30 #[.agg #[.pointer none, .string ⟨#[105]⟩, .int .u64 u]] w (SomeStr2 w) := by
  have F := Lib.hid (fun o => formatInt_any n hlo hhi (w.alloc o) (Lib.tabIs_alloc htab o))
  have H2 := Lib.hid h2
  clear hlo hhi htab h2
  go_enter Tryz.func30, Tryz.ntmps30
  go_wp2_with fail
  rw [H2.out]
  refine (F.out _).mono ?_
  rintro e w' ⟨⟨s, rfl⟩, hb⟩
  go_wp2_with fail
  go_ret2
  exact ⟨⟨s, rfl⟩, ((Below.refl _ _).alloc (Nat.le_refl _) _).trans (hb.mono (by simp))⟩
set_option maxHeartbeats 1000000 in
set_option maxRecDepth 100000 in
theorem string1_i (u n : Int) (h0 : (u == 0) = false) (h1 : decide (0 < u) = true) (h2 : wrap64 u = n) (hlo : -9223372036854775808 ≤ n) (hhi : n ≤ 9223372036854775807) (w : World) (htab : Lib.TabIs Tryz.prog w "internal/strconv.uint64pow10" .u64 Lib.pow10Tab) :
    Calls Tryz.prog 16 #[.agg #[.pointer none, .string ⟨#[105]⟩, .int .u64 u]] w (SomeStr w) := by
  have F := Lib.hid (fun o => string2_i u n h0 h1 h2 hlo hhi (w.alloc o) (Lib.tabIs_alloc htab o))
  clear hlo hhi htab h0 h1 h2
  go_enter Tryz.func16, Tryz.ntmps16
  go_wp2_with fail
  refine (F.out _).mono ?_
  rintro e w' ⟨⟨s, rfl⟩, hb⟩
  go_wp2_with fail
  go_ret
  exact ⟨⟨s, rfl⟩, ((Below.refl _ _).alloc (Nat.le_refl _) _).trans (hb.mono (by simp))⟩
set_option maxHeartbeats 1000000 in
set_option maxRecDepth 100000 in
theorem uint_neg (u n : Int) (b : Addr) (h0 : (u == 0) = false) (h0' : (u != 0) = true) (h1 : decide (0 < u) = true) (h2 : wrap64 u = n) (hn : n < 0) (hlo : -9223372036854775808 ≤ n) (w : World) (htab : Lib.TabIs Tryz.prog w "internal/strconv.uint64pow10" .u64 Lib.pow10Tab)
    (hE : w.cell? ⟨1, 0, none⟩ = some (.iface 159 (.pointer (some b)))) :
    Calls Tryz.prog 8 #[.agg #[.pointer none, .string ⟨#[105]⟩, .int .u64 u]] w (NumErr .u64 0 b w) := by
  have F := Lib.hid (fun k o => string1_i u n h0 h1 h2 hlo (by omega) ((w.alloc o).drewN k) (Lib.tabIs_alloc htab o))
  have hE1 := fun o => (World.cell?_alloc_lt w o _ (World.block_lt_of_cell? w _ hE)).trans hE
  have HE := Lib.hid hE1
  clear hlo htab hE hE1
  go_enter Tryz.func8, Tryz.ntmps8
  go_wp2_with fail
  go_wp2_with fail
  have hc := HE.out
  go_region_with (go_at_call 16; refine (F.out _ _).mono ?_; rintro e w1 ⟨⟨s, rfl⟩, hb⟩; have hz := hb.size; have hc1 := (hb.cell (p := ⟨1, 0, none⟩) (World.block_lt_of_cell? _ _ (HE.out _))).trans (HE.out _))
  all_goals go_wp2_with fail
  all_goals go_ret2
  all_goals
    have hb' : Below w.heap.size w w1 := (Go.below_drewN ((Below.refl _ _).alloc (Nat.le_refl _) _) _).trans (hb.mono (by simp))
    exact ⟨_, rfl, cell_of_row _ _ 2 _ _ (0, 0) (heap_alloc_new w1 _), hb'.alloc hb'.size _⟩
set_option maxHeartbeats 1000000 in
set_option maxRecDepth 100000 in
theorem string2_u (u : Nat) (h0 : ((u : Int) == 0) = false) (h1 : 0 < u) (h2 : 100 ≤ u) (h3 : u < 18446744073709551616) (w : World) (htab : Lib.TabIs Tryz.prog w "internal/strconv.uint64pow10" .u64 Lib.pow10Tab) :
    Calls Tryz.prog 30 #[.agg #[.pointer none, .string ⟨#[117]⟩, .int .u64 u]] w (SomeStr2 w) := by
  have F := Lib.hid (fun o => formatUint_big u h2 h3 (w.alloc o) (Lib.tabIs_alloc htab o))
  clear htab h2 h3
  go_enter Tryz.func30, Tryz.ntmps30
  go_wp2_with fail
  refine (F.out _).mono ?_
  rintro e w' ⟨⟨s, rfl⟩, hb⟩
  go_wp2_with fail
  go_ret2
  exact ⟨⟨s, rfl⟩, ((Below.refl _ _).alloc (Nat.le_refl _) _).trans (hb.mono (by simp))⟩
set_option maxHeartbeats 1000000 in
set_option maxRecDepth 100000 in
theorem string1_u (u : Nat) (h0 : ((u : Int) == 0) = false) (h1 : 0 < u) (h2 : 100 ≤ u) (h3 : u < 18446744073709551616) (w : World) (htab : Lib.TabIs Tryz.prog w "internal/strconv.uint64pow10" .u64 Lib.pow10Tab) :
    Calls Tryz.prog 16 #[.agg #[.pointer none, .string ⟨#[117]⟩, .int .u64 u]] w (SomeStr w) := by
  have F := Lib.hid (fun o => string2_u u h0 h1 h2 h3 (w.alloc o) (Lib.tabIs_alloc htab o))
  clear htab h0 h1 h2 h3
  go_enter Tryz.func16, Tryz.ntmps16
  go_wp2_with fail
  refine (F.out _).mono ?_
  rintro e w' ⟨⟨s, rfl⟩, hb⟩
  go_wp2_with fail
  go_ret
  exact ⟨⟨s, rfl⟩, ((Below.refl _ _).alloc (Nat.le_refl _) _).trans (hb.mono (by simp))⟩
set_option maxHeartbeats 1000000 in
set_option maxRecDepth 100000 in
theorem int_big (u : Nat) (b : Addr) (h0 : ((u : Int) == 0) = false) (h0' : ((u : Int) != 0) = true) (h1 : 0 < u) (h2 : 9223372036854775807 < (u : Int)) (h3 : u < 18446744073709551616) (w : World) (htab : Lib.TabIs Tryz.prog w "internal/strconv.uint64pow10" .u64 Lib.pow10Tab)
    (hE : w.cell? ⟨0, 0, none⟩ = some (.iface 159 (.pointer (some b)))) :
    Calls Tryz.prog 11 #[.agg #[.pointer none, .string ⟨#[117]⟩, .int .u64 u]] w (NumErr .i64 9223372036854775807 b w) := by
  have F := Lib.hid (fun k o => string1_u u h0 h1 (by omega) h3 ((w.alloc o).drewN k) (Lib.tabIs_alloc htab o))
  have hE1 := fun o => (World.cell?_alloc_lt w o _ (World.block_lt_of_cell? w _ hE)).trans hE
  have HE := Lib.hid hE1
  clear htab hE hE1 h3
  go_enter Tryz.func11, Tryz.ntmps11
  go_wp2_with fail
  have hc := HE.out
  go_region_with (go_at_call 16; refine (F.out _ _).mono ?_; rintro e w1 ⟨⟨s, rfl⟩, hb⟩; have hz := hb.size; have hc1 := (hb.cell (p := ⟨0, 0, none⟩) (World.block_lt_of_cell? _ _ (HE.out _))).trans (HE.out _))
  all_goals go_wp2_with fail
  all_goals go_ret2
  all_goals
    have hb' : Below w.heap.size w w1 := (Go.below_drewN ((Below.refl _ _).alloc (Nat.le_refl _) _) _).trans (hb.mono (by simp))
    exact ⟨_, rfl, cell_of_row _ _ 2 _ _ (0, 0) (heap_alloc_new w1 _), hb'.alloc hb'.size _⟩
set_option maxHeartbeats 1000000 in
set_option maxRecDepth 100000 in
theorem fault_syntax (pb : Nat) (b : Addr) (w : World) (h1 : w.cell? ⟨pb, 2, none⟩ = some (.iface 159 (.pointer (some b)))) (hE : w.cell? ⟨1, 0, none⟩ = some (.iface 159 (.pointer (some b)))) :
    Calls Tryz.prog 9 #[.iface 49 (.pointer (some ⟨pb, 0, none⟩))] w fun e w' => e = .returned (.int .i64 1) ∧ w = w' := by
  have I := Lib.hid (is_num_same pb b w h1)
  clear h1
  go_enter Tryz.func9, Tryz.ntmps9
  go_wp2_with fail
  refine I.out.mono ?_
  rintro e w' ⟨rfl, rfl⟩
  go_wp2_with fail
  go_ret
  exact ⟨rfl, rfl⟩
set_option maxHeartbeats 1000000 in
set_option maxRecDepth 100000 in
theorem fault_range (pb : Nat) (b a : Addr) (ca cb : Array Value) (ta tb : TypeId) (w : World) (h1 : w.cell? ⟨pb, 2, none⟩ = some (.iface 159 (.pointer (some a)))) (hne : a ≠ b) (ha : w.heap[a.block]? = some (.cells ca ta (0, 0))) (hb : w.heap[b.block]? = some (.cells cb tb (0, 0)))
    (hE : w.cell? ⟨1, 0, none⟩ = some (.iface 159 (.pointer (some b)))) (hE' : w.cell? ⟨0, 0, none⟩ = some (.iface 159 (.pointer (some a)))) :
    Calls Tryz.prog 9 #[.iface 49 (.pointer (some ⟨pb, 0, none⟩))] w fun e w' => e = .returned (.int .i64 2) ∧ w = w' := by
  have I := Lib.hid (is_num_other pb b a ca cb ta tb w h1 hne ha hb)
  have J := Lib.hid (is_num_same pb a w h1)
  clear h1 hne ha hb
  go_enter Tryz.func9, Tryz.ntmps9
  go_wp2_with fail
  refine I.out.mono ?_
  rintro e w' ⟨rfl, rfl⟩
  go_wp2_with fail
  refine J.out.mono ?_
  rintro e w' ⟨rfl, rfl⟩
  go_wp2_with fail
  go_ret
  exact ⟨rfl, rfl⟩
end Go.Proofs.YtmocaapfbpefpaaGreatDoor.Own
