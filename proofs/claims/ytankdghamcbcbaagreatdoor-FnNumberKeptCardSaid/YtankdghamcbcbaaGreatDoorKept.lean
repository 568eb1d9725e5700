/-
  The law FnNumberKept, walked: a number that no option brings into another form is written as it stands, for texts of at most 1000 bytes; for all other texts the law answers true at once.
-/
import Derived.Test.YtankdghamcbcbaaGreatDoorKeptW
import Derived.Test.YtankdghamcbcbaaGreatDoorPFnNumberKeptx1
import Derived.Test.YtankdghamcbcbaaGreatDoorPFnNumberKeptx2
namespace Go.Proofs.YtankdghamcbcbaaGreatDoor.Own
open Go.RowKit Go.Proofs.YtankdghamcbcbaaGreatDoorW.PrintWords Go.Proofs.YtankdghamcbcbaaGreatDoorW.PrintLast Go.Proofs.YtankdghamcbcbaaGreatDoorW.PrintMore JN PFnNumberKept
theorem wrap_small {i : Int} (h0 : 0 ≤ i) (h : i ≤ 100000) : wrap64 (i + 1) = i + 1 := by unfold wrap64; omega
theorem round8 (s : ByteArray) (st i : Int) (m : Nat) (hst : 0 ≤ st ∧ st ≤ 8) (h0 : 0 ≤ i) (h1 : i < s.size) (r : Int → Bool)
    (ih : ∀ k, m ≤ k → ∀ st', 0 ≤ st' ∧ st' ≤ 8 → laws_number8.l0 k s st' s.size (wrap64 (i + 1)) = some (r st')) :
    laws_number8.l0 (m + 10) s st s.size i = some (match step8 st (bt s i) with | some st' => r st' | none => false) := by
  rw [laws_number8.l0, if_pos h1, if_pos h0, if_pos h1]
  generalize bt s i = c
  have hh : st = 0 ∨ st = 1 ∨ st = 2 ∨ st = 3 ∨ st = 4 ∨ st = 5 ∨ st = 6 ∨ st = 7 ∨ st = 8 := by omega
  simp only [laws_number8.j1, laws_number8.j2, laws_number8.j3, laws_number8.j4, laws_number8.j5, laws_number8.j6, laws_number8.j7, laws_number8.j8]
  have e1 : ∀ k, m ≤ k → laws_number8.l0 k s 1 s.size (wrap64 (i + 1)) = some (r 1) := fun k hk => ih k hk 1 (by omega)
  have e2 : ∀ k, m ≤ k → laws_number8.l0 k s 2 s.size (wrap64 (i + 1)) = some (r 2) := fun k hk => ih k hk 2 (by omega)
  have e3 : ∀ k, m ≤ k → laws_number8.l0 k s 3 s.size (wrap64 (i + 1)) = some (r 3) := fun k hk => ih k hk 3 (by omega)
  have e4 : ∀ k, m ≤ k → laws_number8.l0 k s 4 s.size (wrap64 (i + 1)) = some (r 4) := fun k hk => ih k hk 4 (by omega)
  have e5 : ∀ k, m ≤ k → laws_number8.l0 k s 5 s.size (wrap64 (i + 1)) = some (r 5) := fun k hk => ih k hk 5 (by omega)
  have e6 : ∀ k, m ≤ k → laws_number8.l0 k s 6 s.size (wrap64 (i + 1)) = some (r 6) := fun k hk => ih k hk 6 (by omega)
  have e7 : ∀ k, m ≤ k → laws_number8.l0 k s 7 s.size (wrap64 (i + 1)) = some (r 7) := fun k hk => ih k hk 7 (by omega)
  have e8 : ∀ k, m ≤ k → laws_number8.l0 k s 8 s.size (wrap64 (i + 1)) = some (r 8) := fun k hk => ih k hk 8 (by omega)
  rw [e1 _ (by omega), e2 _ (by omega), e3 _ (by omega), e4 _ (by omega), e5 _ (by omega), e6 _ (by omega), e7 _ (by omega), e8 _ (by omega)]
  clear e1 e2 e3 e4 e5 e6 e7 e8 ih
  unfold step8 isDig
  rcases hh with rfl | rfl | rfl | rfl | rfl | rfl | rfl | rfl | rfl
  all_goals
    by_cases g1 : c ≥ 48 <;> by_cases g2 : c ≤ 57 <;> simp [g1, g2]
  all_goals (repeat' split)
  all_goals first | rfl | omega | (simp_all; done) | skip
theorem l0_run (s : ByteArray) (hs : s.size ≤ 1000) : ∀ (d i : Nat), s.size - i = d → i ≤ s.size → ∀ k, 10 * d + 1 ≤ k → ∀ st : Int, 0 ≤ st ∧ st ≤ 8 →
    laws_number8.l0 k s st s.size i = some (run8 st ((bytesOf s).drop i)) := by
  intro d
  induction d with
  | zero =>
    intro i hd hi k hk st hst
    obtain ⟨k, rfl⟩ : ∃ m, k = m + 1 := ⟨k - 1, by omega⟩
    have hii : i = s.size := by omega
    rw [laws_number8.l0, if_neg (by omega)]
    have : (bytesOf s).drop i = [] := List.drop_eq_nil_of_le (by rw [bytesOf_length]; omega)
    rw [this]
    unfold run8 acc8
    have hh : st = 0 ∨ st = 1 ∨ st = 2 ∨ st = 3 ∨ st = 4 ∨ st = 5 ∨ st = 6 ∨ st = 7 ∨ st = 8 := by omega
    rcases hh with rfl | rfl | rfl | rfl | rfl | rfl | rfl | rfl | rfl <;> simp
  | succ d ih =>
    intro i hd hi k hk st hst
    obtain ⟨m, rfl⟩ : ∃ m, k = m + 10 := ⟨k - 10, by omega⟩
    have hlt : i < s.size := by omega
    have e := round8 s st i m hst (by omega) (by omega) (fun st' => run8 st' ((bytesOf s).drop (i + 1))) (fun k hk st' hst' => by
      rw [wrap_small (by omega) (by omega)]
      have := ih (i + 1) (by omega) (by omega) k (by omega) st' hst'
      rw [← this]
      rfl)
    have e2 : (bytesOf s).drop i = bt s i :: (bytesOf s).drop (i + 1) := by rw [drop_rd (q := i) (by rw [bytesOf_length]; exact hlt), rd_bytesOf]
    rw [e, e2]
    rfl
/-- number8 tells whether the number at the head is the whole text. -/
theorem number8_tells (s : ByteArray) (hs : s.size ≤ 1000) : ∃ k, laws_number8.f k s = some (decide (num (bytesOf s) = some s.size)) := by
  refine ⟨10 * s.size + 1, ?_⟩
  have h := l0_run s hs s.size 0 (by omega) (by omega) (10 * s.size + 1) (by omega) 0 (by omega)
  unfold laws_number8.f
  have e : run8 0 ((bytesOf s).drop 0) = decide (num (bytesOf s) = some s.size) := by
    rw [List.drop_zero, Bool.eq_iff_iff, run8_num, bytesOf_length]
    simp
  rw [← e]
  exact h
theorem number8_calls (s : ByteArray) (hs : s.size ≤ 1000) (w : World) : Calls Tryz.prog 5 #[.string s] w fun e w' => e = .returned (.bool (decide (num (bytesOf s) = some s.size))) ∧ Drawn0 w w' := by
  obtain ⟨k, h⟩ := number8_tells s hs
  exact laws_number8.calls k s _ w h
theorem fits8_calls (a b : ByteArray) (g : Nat) (w : World) (h0 : w.cell? ⟨g, 0, none⟩ = some (.string a)) (h1 : w.cell? ⟨g, 1, none⟩ = some (.string b)) :
    Calls Tryz.prog 4 #[.slice (some ⟨g, 0, none⟩) 2 2] w fun e w' => e = .returned (.bool (decide (a.size ≤ 1000 ∧ b.size ≤ 1000))) ∧ Drawn0 w w' := by
  refine laws_fits8.calls 3 (some ⟨g, 0, none⟩) 2 [a, b] _ w ⟨rfl, by simp, fun _ => ⟨_, rfl, fun j p hj => ⟨[.string p], rfl, rfl, fun i u hu => ?_⟩⟩⟩ (Nat.le_refl _) ?_
  · rw [add_plain]
    have hi : i = 0 := by have := (List.getElem?_eq_some_iff.1 hu).1; simp at this; exact this
    subst hi
    simp at hu
    subst hu
    have hj2 : j < 2 := by have := (List.getElem?_eq_some_iff.1 hj).1; simpa using this
    have hj' : j = 0 ∨ j = 1 := by omega
    rcases hj' with rfl | rfl
    · simp at hj; subst hj; have e : 0 * Kd.string.sz + 0 = 0 := rfl; rw [e]; exact h0
    · simp at hj; subst hj; have e : 1 * Kd.string.sz + 0 = 1 := rfl; rw [e]; exact h1
  · unfold laws_fits8.f
    have w0 : wrap64 (0 + 1) = 1 := by unfold wrap64; omega
    have w1 : wrap64 (1 + 1) = 2 := by unfold wrap64; omega
    simp only [laws_fits8.l0, w0, w1, List.length_cons, List.length_nil]
    by_cases ha : a.size ≤ 1000
    · have ha' : ¬ (a.size : Int) > 1000 := by omega
      by_cases hb : b.size ≤ 1000
      · have hb' : ¬ (b.size : Int) > 1000 := by omega
        simp [rdOf, ha, hb, ha', hb']
      · have hb' : (b.size : Int) > 1000 := by omega
        simp [rdOf, ha, hb, ha', hb']
    · have ha' : (a.size : Int) > 1000 := by omega
      simp [rdOf, ha, ha']
set_option maxHeartbeats 1600000 in
set_option maxRecDepth 100000 in
theorem law_walk (dst text : ByteArray) (w : World) : Calls Tryz.prog 3 #[.string dst, .string text] w fun e w' => e = .returned (.bool true) ∧ Below w.heap.size w w' := by
  by_cases hd : 2147483647 < (dst.size : Int)
  · go_enter Tryz.func3, Tryz.ntmps3
    go_wp2_with fail
    go_ret
    exact ⟨rfl, Below.refl _ _⟩
  by_cases ht : 2147483647 < (text.size : Int)
  · go_enter Tryz.func3, Tryz.ntmps3
    go_wp2_with fail
    go_ret
    exact ⟨rfl, Below.refl _ _⟩
  have e0 := heap_alloc_new w (.cells #[Value.string dst, Value.string text] 9)
  have hF := fits8_calls dst text w.heap.size (w.alloc (.cells #[Value.string dst, Value.string text] 9)) ((blk_cell e0 0).trans rfl) ((blk_cell e0 1).trans rfl)
  have hb0 := (Below.refl w.heap.size w).alloc (Nat.le_refl _) (.cells #[Value.string dst, Value.string text] 9)
  have HB := Lib.hid hb0
  clear e0 hb0
  by_cases hs : dst.size ≤ 1000 ∧ text.size ≤ 1000
  · have ed : decide (dst.size ≤ 1000 ∧ text.size ≤ 1000) = true := by simpa using hs
    rw [ed] at hF
    have F := Lib.hid hF
    clear hF ed
    obtain ⟨hs1, hs2⟩ := hs
    have hN := fun W => number8_calls text hs2 W
    by_cases hn : num (bytesOf text) = some text.size
    · have ed : decide (num (bytesOf text) = some text.size) = true := by simpa using hn
      rw [ed] at hN
      have N := Lib.hid hN
      have A := Lib.hid (fun W => again_kept dst text W hs1 hs2 hn)
      clear hN ed hn
      go_enter Tryz.func3, Tryz.ntmps3
      go_wp2_with fail
      refine F.out.mono ?_
      rintro e W1 ⟨rfl, ⟨⟨n1, rfl⟩⟩⟩
      go_wp2_with fail
      refine (N.out _).mono ?_
      rintro e W2 ⟨rfl, ⟨⟨n2, rfl⟩⟩⟩
      go_wp2_with fail
      refine (A.out _).mono ?_
      rintro e W3 ⟨rfl, hb⟩
      have HB3 := Lib.hid hb
      clear hb
      go_wp2_with fail
      go_ret
      refine ⟨rfl, ?_⟩
      have h0 := HB.out
      have h3 := HB3.out
      exact (pw_below_drewN h0 _).trans (h3.mono (B' := w.heap.size) (by simp))
    · have ed : decide (num (bytesOf text) = some text.size) = false := by simpa using hn
      rw [ed] at hN
      have N := Lib.hid hN
      clear hN ed hn
      go_enter Tryz.func3, Tryz.ntmps3
      go_wp2_with fail
      refine F.out.mono ?_
      rintro e W1 ⟨rfl, ⟨⟨n1, rfl⟩⟩⟩
      go_wp2_with fail
      refine (N.out _).mono ?_
      rintro e W2 ⟨rfl, ⟨⟨n2, rfl⟩⟩⟩
      go_wp2_with fail
      go_ret
      exact ⟨rfl, pw_below_drewN HB.out _⟩
  · have ed : decide (dst.size ≤ 1000 ∧ text.size ≤ 1000) = false := by simpa using hs
    rw [ed] at hF
    have F := Lib.hid hF
    clear hF ed hs
    go_enter Tryz.func3, Tryz.ntmps3
    go_wp2_with fail
    refine F.out.mono ?_
    rintro e W1 ⟨rfl, ⟨⟨n1, rfl⟩⟩⟩
    go_wp2_with fail
    go_ret
    exact ⟨rfl, pw_below_drewN HB.out _⟩
end Go.Proofs.YtankdghamcbcbaaGreatDoor.Own
