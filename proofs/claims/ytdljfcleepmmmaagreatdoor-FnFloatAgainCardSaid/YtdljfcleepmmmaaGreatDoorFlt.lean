/-
  Numbers of 64 bits by IEEE 754, plain facts: a finite number equals itself, and is not beyond the greatest finite one.
-/
import Derived.Laws.FloatBits
import Derived.Laws.Cover2
namespace Go.Proofs.YtdljfcleepmmmaaGreatDoor.Own
open Ieee
/-- The word of a finite number. -/
def Fin (b : Nat) : Prop := b % 9223372036854775808 < 9218868437227405312
theorem read_fin (b : Nat) (h : Fin b) : ∃ s m i, Ieee.double.read b = .number s m i ∧ m ≤ 9007199254740991 ∧ -1074 ≤ i ∧ i ≤ 971 := by
  unfold Fin at h
  unfold Format.read
  have hs : Ieee.double.signWeight = 9223372036854775808 := by decide
  have hb : Ieee.double.binade = 4503599627370496 := by decide
  have hi : Ieee.double.infRung = 9218868437227405312 := by decide
  have hl : Ieee.double.leastPlace = -1074 := by decide
  rw [hs, hb, hi, hl]
  simp only
  generalize hr : b % 9223372036854775808 = r at h ⊢
  by_cases h1 : r < 4503599627370496
  · rw [if_pos h1]
    exact ⟨_, _, _, rfl, by omega, by omega, by omega⟩
  · rw [if_neg h1, if_pos h]
    exact ⟨_, _, _, rfl, by omega, by omega, by omega⟩
theorem order_self (b : Nat) (h : Fin b) : Ieee.double.order b b = some .eq := by
  obtain ⟨s, m, i, hr, _⟩ := read_fin b h
  unfold Format.order
  rw [hr]
  unfold Datum.order
  simp [compare, compareOfLessAndEq]
theorem order_max (b : Nat) (h : Fin b) : Ieee.double.order b 9218868437227405311 ≠ some .gt := by
  obtain ⟨s, m, i, hr, hm, hi0, hi⟩ := read_fin b h
  have hx : Ieee.double.read 9218868437227405311 = .number false 9007199254740991 971 := by decide
  unfold Format.order
  rw [hr, hx]
  unfold Datum.order
  simp only
  rw [show min i 971 = i from Int.min_eq_left hi, show (i - i).toNat = 0 from by omega]
  intro e
  have e := Option.some.inj e
  have hle : signed s m 0 ≤ signed false 9007199254740991 (971 - i).toNat := by
    have h2 : (9007199254740991 : Nat) ≤ 9007199254740991 <<< (971 - i).toNat := by
      rw [Nat.shiftLeft_eq]
      exact Nat.le_mul_of_pos_right _ (Nat.two_pow_pos _)
    unfold signed
    cases s
    · simp only [Bool.false_eq_true, if_false, Nat.shiftLeft_zero]
      omega
    · simp only [Bool.false_eq_true, if_false, if_true, Nat.shiftLeft_zero]
      omega
  revert e
  generalize signed s m 0 = a at hle
  generalize signed false 9007199254740991 (971 - i).toNat = c at hle
  intro e
  have e := Int.compare_eq_gt.1 e
  omega
theorem neg_fin (b : Nat) (h : Fin b) : Fin (b ^^^ 9223372036854775808) := by
  unfold Fin at *
  have e : (b ^^^ 9223372036854775808) % 9223372036854775808 = b % 9223372036854775808 := by
    have h1 := Nat.xor_mod_two_pow (a := b) (b := 9223372036854775808) (n := 63)
    simpa using h1
  rw [e]
  exact h
theorem order_nan (b : Nat) (h : 9218868437227405312 < b % 9223372036854775808) : Ieee.double.order b b = none := by
  have hr : ∃ s t, Ieee.double.read b = .nan s t := by
    unfold Format.read
    have hs : Ieee.double.signWeight = 9223372036854775808 := by decide
    have hb : Ieee.double.binade = 4503599627370496 := by decide
    have hi : Ieee.double.infRung = 9218868437227405312 := by decide
    rw [hs, hb, hi]
    simp only
    generalize b % 9223372036854775808 = r at h ⊢
    rw [if_neg (by omega), if_neg (by omega)]
    try rw [if_neg (by omega)]
    exact ⟨_, _, rfl⟩
  obtain ⟨s, t, hr⟩ := hr
  unfold Format.order
  rw [hr]
  rfl
end Go.Proofs.YtdljfcleepmmmaaGreatDoor.Own
