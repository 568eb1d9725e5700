/-
  FormatUint at base 10, from 100 on: some string; below the call's own blocks nothing has turned.
-/
import Derived.Test.YtmocaapfbpefpaaGreatDoorShelf
import Derived.Lib.AppendIntMem
import Derived.WalkKit
import Derived.Below
import Derived.WalkLawsBesides
import Derived.WalkSpells
import Derived.Lib.Hide
namespace Go.Proofs.YtmocaapfbpefpaaGreatDoor.Own
open Go.RowKit Go.Sort Go.Lib Go.Shelf
set_option maxHeartbeats 1000000 in
set_option maxRecDepth 100000 in
theorem formatUint_in (u : Nat) (h100 : 100 ≤ u) (hu64 : u < 18446744073709551616) (w : World) (htab : Lib.TabIs Tryz.prog w "internal/strconv.uint64pow10" .u64 Lib.pow10Tab) :
    Calls Tryz.prog 53 #[.int .u64 u, .int .i64 10] w fun e w' => e = .returned (.string ⟨(Lib.decDigits u).toArray⟩) ∧ ∃ k os, w' = grow (w.drewN k) os := by
  have hu1 : 1 ≤ u := by omega
  have hnd20 : Lib.nDigits u ≤ 20 := by have := Lib.numDigits_eq u hu1 hu64; split at this <;> omega
  have hal : Tryz.prog.arrayLen 131 = 24 := by kernel_rfl
  have hsl : ∀ W, (Instr.sliceAt 131 (.pointer (some ⟨w.heap.size, 0, none⟩)) none (some (.int .i64 (Lib.nDigits u : Int))) none).run Tryz.prog W = .ok (.slice (some ⟨w.heap.size, 0, none⟩) (Lib.nDigits u) 24) W := fun W => by
    rw [run_sliceAt_array_h W 131 ⟨w.heap.size, 0, none⟩ (by kernel_rfl) .i64 (Lib.nDigits u : Int) (by omega) (by rw [hal]; omega)]
    go_simp
  have hH0 := Lib.holds_zero0 w 131 (Lib.nDigits u) (by omega)
  have hfmt := Tryz.internal_strconv_formatBase10 w.heap.size 0 24 u (Array.replicate (Lib.nDigits u) 0) (w.alloc (.cells Lib.zeros24 131)) hH0 (by rw [Array.size_replicate]; exact Lib.lt_pow_nDigits u) hu64 (by rw [Array.size_replicate]; omega)
  rw [Array.size_replicate] at hfmt
  have HH0 := Lib.hid hH0
  clear hH0 hal
  go_enter Tryz.func53, Tryz.ntmps53
  go_wp2_with fail
  refine (Tryz.internal_strconv_numDigits u hu1 hu64 _ (Lib.tabIs_alloc htab _)).mono ?_
  rintro e w' ⟨rfl, rfl⟩
  go_wp2_with fail
  refine hfmt.mono ?_
  rintro e w' ⟨rfl, k, v', dk, rfl, hF⟩
  have hcv : (convert 45 9 (.slice (some ⟨w.heap.size, 0, none⟩) (Lib.nDigits u) 24)).run Tryz.prog ((putRow (fun (b : UInt8) => Value.int .u8 (b.toNat : Int)) (w.alloc (.cells Lib.zeros24 131)) w.heap.size 0 dk).drewN k) = .ok (.string ⟨(Lib.decDigits u).toArray⟩) ((putRow (fun (b : UInt8) => Value.int .u8 (b.toNat : Int)) (w.alloc (.cells Lib.zeros24 131)) w.heap.size 0 dk).drewN k) := by
    have h := run_convert_bytes_back (P := Tryz.prog) ((putRow (fun (b : UInt8) => Value.int .u8 (b.toNat : Int)) (w.alloc (.cells Lib.zeros24 131)) w.heap.size 0 dk).drewN k) 45 9 5 ⟨w.heap.size, 0, none⟩ 24 (Lib.decDigits u) Tryz.underlying45 Tryz.underlying5 Tryz.underlying9 (fun j hj => by
      rw [Lib.row_is_numeral hF j hj, Lib.add_plain, World.cell?_drewN]
      exact cell?_putRow (fun (b : UInt8) => Value.int .u8 (b.toNat : Int)) _ w.heap.size 0 _ dk HH0.out (by rw [hF.size, Array.size_replicate]) j (by rw [hF.size]; rw [Lib.decDigits_length] at hj; exact hj))
    rw [Lib.decDigits_length] at h
    exact h
  go_wp2_with fail
  go_ret
  obtain ⟨os, eo⟩ := Lib.fin_at w (.cells Lib.zeros24 131) dk k 0
  exact ⟨rfl, k, os, eo⟩
theorem below_grow (w : World) (k : Nat) (os : Array Obj) : Below w.heap.size w (grow (w.drewN k) os) := ⟨rfl, rfl, rfl, by show w.heap.size ≤ (w.heap ++ os).size; simp, fun b hb => Lib.heap_grow_old w k os b hb⟩
set_option maxRecDepth 100000 in
/-- strconv.FormatUint at base 10, from 100 on. -/
theorem formatUint_big (u : Nat) (h100 : 100 ≤ u) (hu64 : u < 18446744073709551616) (w : World) (htab : Lib.TabIs Tryz.prog w "internal/strconv.uint64pow10" .u64 Lib.pow10Tab) :
    Calls Tryz.prog 42 #[.int .u64 u, .int .i64 10] w fun e w' => (∃ s, e = .returned (.string s)) ∧ Below w.heap.size w w' := by
  go_enter Tryz.func42, Tryz.ntmps42
  go_wp2_with fail
  refine (formatUint_in u h100 hu64 _ htab).mono ?_
  rintro e w' ⟨rfl, k, os, rfl⟩
  go_wp2_with fail
  go_ret
  exact ⟨⟨_, rfl⟩, below_grow w k os⟩
/-- strconv.FormatInt at base 10. -/
theorem formatInt_any (n : Int) (h0 : -9223372036854775808 ≤ n) (h1 : n ≤ 9223372036854775807) (w : World) (htab : Lib.TabIs Tryz.prog w "internal/strconv.uint64pow10" .u64 Lib.pow10Tab) :
    Calls Tryz.prog 41 #[.int .i64 n, .int .i64 10] w fun e w' => (∃ s, e = .returned (.string s)) ∧ Below w.heap.size w w' :=
  (Tryz.strconv_FormatInt_10 n h0 h1 w htab).mono fun _ _ ⟨he, k, os, hw⟩ => ⟨⟨_, he⟩, by rw [hw]; exact below_grow w k os⟩
end Go.Proofs.YtmocaapfbpefpaaGreatDoor.Own
