/-
  Plain law: numbers of RFC 8259 over lists of byte values, the machine of number8, and where the parts of a number stand.
-/
import Derived.Test.YtankdghamcbcbaaGreatDoorPFnNumberKeptx0
namespace Go.Proofs.YtankdghamcbcbaaGreatDoor.JN
open Go.Proofs.YtankdghamcbcbaaGreatDoorW.PrintWords
def isDig (c : Int) : Bool := decide (48 ≤ c) && decide (c ≤ 57)
def digs : List Int → Nat
  | [] => 0
  | c :: t => if isDig c then digs t + 1 else 0
def sgn : List Int → Nat
  | [] => 0
  | c :: _ => if c = 45 ∨ c = 43 then 1 else 0
def expo : List Int → Option Nat
  | [] => some 0
  | c :: t => if c = 101 ∨ c = 69 then (if digs (t.drop (sgn t)) = 0 then none else some (1 + sgn t + digs (t.drop (sgn t)))) else some 0
def frac : List Int → Option Nat
  | [] => some 0
  | c :: t => if c = 46 then (if digs t = 0 then none else (expo (t.drop (digs t))).map (· + (1 + digs t))) else expo (c :: t)
def whole : List Int → Option Nat
  | [] => none
  | c :: t => if c = 48 then (frac t).map (· + 1) else if isDig c then (frac (t.drop (digs t))).map (· + (1 + digs t)) else none
def num : List Int → Option Nat
  | [] => none
  | c :: t => if c = 45 then (whole t).map (· + 1) else whole (c :: t)

/-- number8's machine. -/
def step8 (s c : Int) : Option Int :=
  if s = 0 ∧ c = 45 then some 1
  else if s ≤ 1 ∧ c = 48 then some 2
  else if (s ≤ 1 ∧ isDig c) ∨ (s = 3 ∧ isDig c) then some 3
  else if (s = 2 ∨ s = 3) ∧ c = 46 then some 4
  else if (s = 4 ∨ s = 5) ∧ isDig c then some 5
  else if (s = 2 ∨ s = 3 ∨ s = 5) ∧ (c = 101 ∨ c = 69) then some 6
  else if s = 6 ∧ (c = 43 ∨ c = 45) then some 7
  else if s ≥ 6 ∧ isDig c then some 8
  else none
def acc8 (s : Int) : Bool := s == 2 || s == 3 || s == 5 || s == 8
def run8 (s : Int) : List Int → Bool
  | [] => acc8 s
  | c :: t => match step8 s c with
    | some s' => run8 s' t
    | none => false

theorem digs_le (xs : List Int) : digs xs ≤ xs.length := by
  induction xs with
  | nil => simp [digs]
  | cons c t ih => unfold digs; split <;> simp <;> omega
theorem isDig_iff (c : Int) : isDig c = true ↔ 48 ≤ c ∧ c ≤ 57 := by simp [isDig]

theorem run8_8 (xs : List Int) : run8 8 xs = true ↔ digs xs = xs.length := by
  induction xs with
  | nil => simp [run8, acc8, digs]
  | cons c t ih =>
    unfold run8 step8 digs
    by_cases h : isDig c
    · simp [h, ih]
    · simp [h]
theorem run8_67 (s : Int) (hs : s = 7) (xs : List Int) : run8 s xs = true ↔ (digs xs = xs.length ∧ digs xs ≠ 0) := by
  subst hs
  cases xs with
  | nil => simp [run8, acc8, digs]
  | cons c t =>
    unfold run8 step8 digs
    by_cases h : isDig c
    · simp [h, run8_8]
    · simp [h]
theorem run8_6 (xs : List Int) : run8 6 xs = true ↔ (sgn xs + digs (xs.drop (sgn xs)) = xs.length ∧ digs (xs.drop (sgn xs)) ≠ 0) := by
  cases xs with
  | nil => simp [run8, acc8, digs, sgn]
  | cons c t =>
    by_cases h : isDig c
    · have h1 := (isDig_iff c).1 h
      have hs : sgn (c :: t) = 0 := by show (if _ then _ else _) = _; rw [if_neg (by omega)]
      rw [hs]
      unfold run8 step8
      have : ¬ (c = 43 ∨ c = 45) := by omega
      simp [h, this, run8_8, digs]
    · by_cases h2 : c = 43 ∨ c = 45
      · have hs : sgn (c :: t) = 1 := by show (if _ then _ else _) = _; rw [if_pos (by omega)]
        rw [hs]
        unfold run8 step8
        simp [h, h2, run8_67]
        omega
      · have hs : sgn (c :: t) = 0 := by show (if _ then _ else _) = _; rw [if_neg (by omega)]
        rw [hs]
        unfold run8 step8
        simp [h, h2, digs]
theorem expo_run (s : Int) (hs : s = 2 ∨ s = 3 ∨ s = 5) (xs : List Int) (hd : ∀ c t, xs = c :: t → isDig c = false ∧ (s = 5 ∨ c ≠ 46)) : run8 s xs = true ↔ expo xs = some xs.length := by
  cases xs with
  | nil => rcases hs with rfl | rfl | rfl <;> simp [run8, acc8, expo]
  | cons c t =>
    obtain ⟨h1, h3⟩ := hd c t rfl
    unfold run8 step8 expo
    by_cases he : c = 101 ∨ c = 69
    · have : c ≠ 46 := by omega
      rcases hs with rfl | rfl | rfl <;> simp [h1, he, this, run8_6] <;> omega
    · rcases hs with rfl | rfl | rfl <;> simp [h1, he] at h3 ⊢ <;> simp [h3]

theorem digs_head (xs : List Int) (c : Int) (t : List Int) (h : xs.drop (digs xs) = c :: t) : isDig c = false := by
  induction xs with
  | nil => simp [digs] at h
  | cons a u ih =>
    by_cases ha : isDig a
    · have e : digs (a :: u) = digs u + 1 := by simp [digs, ha]
      rw [e, List.drop_succ_cons] at h
      exact ih h
    · have e : digs (a :: u) = 0 := by simp [digs, ha]
      rw [e, List.drop_zero] at h
      injection h with h1 h2
      subst h1
      simpa using ha
/-- From a state that digits don't change: the digits, then what stands behind them. -/
theorem run8_digs (s : Int) (hs : s = 3 ∨ s = 5) (xs : List Int) : run8 s xs = run8 s (xs.drop (digs xs)) := by
  induction xs with
  | nil => simp [digs]
  | cons a u ih =>
    by_cases ha : isDig a
    · have e : digs (a :: u) = digs u + 1 := by simp [digs, ha]
      have h1 := (isDig_iff a).1 ha
      rw [e, List.drop_succ_cons, ← ih]
      show (match step8 s a with | some s' => run8 s' u | none => false) = _
      have : step8 s a = some s := by
        unfold step8
        have : a ≠ 46 := by omega
        rcases hs with rfl | rfl <;> simp [ha, this]
      rw [this]
    · have e : digs (a :: u) = 0 := by simp [digs, ha]
      rw [e, List.drop_zero]
theorem some_len {o : Option Nat} {k n : Nat} (hk : k ≤ n) : (o.map (· + k) = some n) ↔ o = some (n - k) := by
  cases o with
  | none => simp
  | some m => simp; omega
theorem run8_5 (xs : List Int) : run8 5 xs = true ↔ expo (xs.drop (digs xs)) = some (xs.length - digs xs) := by
  rw [run8_digs 5 (.inr rfl)]
  rw [expo_run 5 (.inr (.inr rfl)) (xs.drop (digs xs)) (fun c t h => ⟨digs_head xs c t h, .inl rfl⟩), List.length_drop]
theorem run8_4 (xs : List Int) : run8 4 xs = true ↔ (digs xs ≠ 0 ∧ expo (xs.drop (digs xs)) = some (xs.length - digs xs)) := by
  cases xs with
  | nil => simp [run8, acc8, digs]
  | cons c t =>
    by_cases h : isDig c
    · have h1 := (isDig_iff c).1 h
      have : step8 4 c = some 5 := by unfold step8; simp [h]
      show (match step8 4 c with | some s' => run8 s' t | none => false) = true ↔ _
      have e : digs (c :: t) = digs t + 1 := by simp [digs, h]
      rw [this, e, List.drop_succ_cons]
      simp [run8_5]
    · have : step8 4 c = none := by unfold step8; simp [h]
      show (match step8 4 c with | some s' => run8 s' t | none => false) = true ↔ _
      simp [this, digs, h]
theorem run8_2 (s : Int) (hs : s = 2 ∨ s = 3) (xs : List Int) (hd : ∀ c t, xs = c :: t → isDig c = false) : run8 s xs = true ↔ frac xs = some xs.length := by
  cases xs with
  | nil => rcases hs with rfl | rfl <;> simp [run8, acc8, frac]
  | cons c t =>
    have h0 := hd c t rfl
    by_cases h : c = 46
    · subst h
      have : step8 s 46 = some 4 := by unfold step8; rcases hs with rfl | rfl <;> simp [isDig]
      show (match step8 s 46 with | some s' => run8 s' t | none => false) = true ↔ _
      rw [this]
      show run8 4 t = true ↔ (if (46 : Int) = 46 then (if digs t = 0 then none else (expo (t.drop (digs t))).map (· + (1 + digs t))) else expo (46 :: t)) = _
      rw [if_pos rfl, run8_4]
      by_cases hz : digs t = 0
      · simp [hz]
      · have := digs_le t
        rw [if_neg hz, some_len (by simp; omega)]
        simp only [List.length_cons]
        rw [show t.length + 1 - (1 + digs t) = t.length - digs t from by omega]
        simp [hz]
    · have e : frac (c :: t) = expo (c :: t) := by show (if c = 46 then _ else _) = _; rw [if_neg h]
      rw [e]
      exact expo_run s (by omega) (c :: t) (fun c' t' h' => by injection h' with h1 h2; subst h1; exact ⟨h0, .inr h⟩)
theorem run8_3 (xs : List Int) : run8 3 xs = true ↔ frac (xs.drop (digs xs)) = some (xs.length - digs xs) := by
  rw [run8_digs 3 (.inl rfl), run8_2 3 (.inr rfl) (xs.drop (digs xs)) (fun c t h => digs_head xs c t h), List.length_drop]
theorem run8_2' (xs : List Int) : run8 2 xs = true ↔ frac xs = some xs.length := by
  cases xs with
  | nil => simp [run8, acc8, frac]
  | cons c t =>
    by_cases h : isDig c
    · have h1 := (isDig_iff c).1 h
      have : step8 2 c = none := by
        unfold step8
        have h46 : c ≠ 46 := by omega
        have h2 : ¬ (c = 101 ∨ c = 69) := by omega
        simp [h46, h2]
      show (match step8 2 c with | some s' => run8 s' t | none => false) = true ↔ (if c = 46 then _ else expo (c :: t)) = _
      rw [this, if_neg (by omega)]
      show _ ↔ (if _ then _ else some 0) = _
      rw [if_neg (by omega)]
      simp
    · exact run8_2 2 (.inl rfl) (c :: t) (fun c' t' h' => by injection h' with h1 h2; subst h1; simpa using h)
theorem run8_1 (s : Int) (hs : s = 0 ∨ s = 1) (xs : List Int) (hd : ∀ c t, xs = c :: t → s = 1 ∨ c ≠ 45) : run8 s xs = true ↔ whole xs = some xs.length := by
  cases xs with
  | nil => rcases hs with rfl | rfl <;> simp [run8, acc8, whole]
  | cons c t =>
    have h45 := hd c t rfl
    show (match step8 s c with | some s' => run8 s' t | none => false) = true ↔ (if c = 48 then _ else if isDig c then _ else _) = _
    by_cases h : c = 48
    · subst h
      have : step8 s 48 = some 2 := by unfold step8; rcases hs with rfl | rfl <;> simp
      rw [this, if_pos rfl, some_len (by simp)]
      simp [run8_2']
    · by_cases hc : isDig c
      · have h1 := (isDig_iff c).1 hc
        have : step8 s c = some 3 := by unfold step8; rcases hs with rfl | rfl <;> simp [h, hc] <;> omega
        have hl := digs_le t
        rw [this, if_neg h, if_pos hc, some_len (by simp; omega)]
        simp only [List.length_cons]
        rw [show t.length + 1 - (1 + digs t) = t.length - digs t from by omega]
        exact run8_3 t
      · have : step8 s c = none := by
          unfold step8
          rcases hs with rfl | rfl <;> simp [h, hc]
          rcases h45 with h | h
          · omega
          · simp [h]
        rw [this, if_neg h, if_neg hc]
        simp
/-- number8 takes a text exactly if the number at its head is the whole of it. -/
theorem run8_num (xs : List Int) : run8 0 xs = true ↔ num xs = some xs.length := by
  cases xs with
  | nil => simp [run8, acc8, num]
  | cons c t =>
    by_cases h : c = 45
    · subst h
      show run8 1 t = true ↔ (if (45 : Int) = 45 then (whole t).map (· + 1) else whole (45 :: t)) = _
      rw [if_pos rfl, run8_1 1 (.inr rfl) t (fun _ _ _ => .inl rfl), some_len (by simp)]
      simp
    · show _ ↔ (if c = 45 then _ else _) = _
      rw [if_neg h]
      exact run8_1 0 (.inl rfl) (c :: t) (fun c' t' h' => by injection h' with h1 h2; subst h1; exact .inr h)

/-! ### Places in a list -/
theorem drop_rd {xs : List Int} {q : Nat} (h : q < xs.length) : xs.drop q = rd xs q :: xs.drop (q + 1) := by
  rw [List.drop_eq_getElem_cons h]
  simp [rd, h]
theorem digs_yes {xs : List Int} {q : Nat} (h : q < xs.length) (hd : isDig (rd xs q) = true) : digs (xs.drop q) = digs (xs.drop (q + 1)) + 1 := by
  rw [drop_rd h]; simp [digs, hd]
theorem digs_no {xs : List Int} {q : Nat} (hd : q < xs.length → isDig (rd xs q) = false) : digs (xs.drop q) = 0 := by
  rcases Nat.lt_or_ge q xs.length with h | h
  · rw [drop_rd h]; simp [digs, hd h]
  · rw [List.drop_eq_nil_of_le h]; rfl
theorem digs_some {xs : List Int} {q : Nat} (h : digs (xs.drop q) ≠ 0) : q < xs.length ∧ isDig (rd xs q) = true := by
  rcases Nat.lt_or_ge q xs.length with h1 | h1
  · refine ⟨h1, ?_⟩
    cases hd : isDig (rd xs q)
    · exact absurd (digs_no fun _ => hd) h
    · rfl
  · exact absurd (digs_no fun h2 => absurd h2 (by omega)) h
theorem digs_bound (xs : List Int) (q : Nat) (h : q ≤ xs.length) : q + digs (xs.drop q) ≤ xs.length := by
  have := digs_le (xs.drop q)
  rw [List.length_drop] at this
  omega
/-- Where an exponent may stand at q, up to e. -/
theorem expo_at {xs : List Int} {q r : Nat} (h : expo (xs.drop q) = some r) :
    ((q < xs.length → rd xs q ≠ 101 ∧ rd xs q ≠ 69) ∧ r = 0) ∨
    (q < xs.length ∧ (rd xs q = 101 ∨ rd xs q = 69) ∧ ∃ s, s = sgn (xs.drop (q + 1)) ∧ digs (xs.drop (q + 1 + s)) ≠ 0 ∧ r = 1 + s + digs (xs.drop (q + 1 + s))) := by
  rcases Nat.lt_or_ge q xs.length with h1 | h1
  · rw [drop_rd h1] at h
    simp only [expo] at h
    by_cases hc : rd xs q = 101 ∨ rd xs q = 69
    · rw [if_pos hc, List.drop_drop] at h
      split at h
      · cases h
      · rename_i hz
        exact .inr ⟨h1, hc, _, rfl, hz, by injection h with h; exact h.symm⟩
    · rw [if_neg hc] at h
      exact .inl ⟨fun _ => by omega, by injection h with h; exact h.symm⟩
  · rw [List.drop_eq_nil_of_le h1] at h
    exact .inl ⟨fun h2 => absurd h2 (by omega), by simp [expo] at h; exact h.symm⟩
theorem sgn_at {xs : List Int} {q : Nat} : (q < xs.length ∧ (rd xs q = 45 ∨ rd xs q = 43) ∧ sgn (xs.drop q) = 1) ∨ ((q < xs.length → rd xs q ≠ 45 ∧ rd xs q ≠ 43) ∧ sgn (xs.drop q) = 0) := by
  rcases Nat.lt_or_ge q xs.length with h1 | h1
  · rw [drop_rd h1]
    simp only [sgn]
    by_cases hc : rd xs q = 45 ∨ rd xs q = 43
    · rw [if_pos hc]; exact .inl ⟨h1, hc, rfl⟩
    · rw [if_neg hc]; exact .inr ⟨fun _ => by omega, rfl⟩
  · rw [List.drop_eq_nil_of_le h1]
    exact .inr ⟨fun h2 => absurd h2 (by omega), rfl⟩
theorem map_add {o : Option Nat} {k r : Nat} (h : o.map (· + k) = some r) : ∃ r', o = some r' ∧ r = r' + k := by
  cases o with
  | none => cases h
  | some a => exact ⟨a, rfl, by simpa using h.symm⟩
theorem frac_at {xs : List Int} {q r : Nat} (h : frac (xs.drop q) = some r) :
    ((q < xs.length → rd xs q ≠ 46) ∧ expo (xs.drop q) = some r) ∨
    (q < xs.length ∧ rd xs q = 46 ∧ digs (xs.drop (q + 1)) ≠ 0 ∧ ∃ r', expo (xs.drop (q + 1 + digs (xs.drop (q + 1)))) = some r' ∧ r = r' + (1 + digs (xs.drop (q + 1)))) := by
  rcases Nat.lt_or_ge q xs.length with h1 | h1
  · rw [drop_rd h1] at h
    simp only [frac] at h
    by_cases hc : rd xs q = 46
    · rw [if_pos hc, List.drop_drop] at h
      split at h
      · cases h
      · rename_i hz
        exact .inr ⟨h1, hc, hz, map_add h⟩
    · rw [if_neg hc, ← drop_rd h1] at h
      exact .inl ⟨fun _ => hc, h⟩
  · rw [List.drop_eq_nil_of_le h1] at h ⊢
    exact .inl ⟨fun h2 => absurd h2 (by omega), h⟩
theorem whole_at {xs : List Int} {q r : Nat} (h : whole (xs.drop q) = some r) :
    q < xs.length ∧ ((rd xs q = 48 ∧ ∃ r', frac (xs.drop (q + 1)) = some r' ∧ r = r' + 1) ∨
    (49 ≤ rd xs q ∧ rd xs q ≤ 57 ∧ ∃ r', frac (xs.drop (q + 1 + digs (xs.drop (q + 1)))) = some r' ∧ r = r' + (1 + digs (xs.drop (q + 1))))) := by
  rcases Nat.lt_or_ge q xs.length with h1 | h1
  · refine ⟨h1, ?_⟩
    rw [drop_rd h1] at h
    simp only [whole] at h
    by_cases hc : rd xs q = 48
    · rw [if_pos hc] at h
      exact .inl ⟨hc, map_add h⟩
    · rw [if_neg hc] at h
      split at h
      · rename_i hd
        rw [List.drop_drop] at h
        have := (isDig_iff _).1 hd
        exact .inr ⟨by omega, by omega, map_add h⟩
      · cases h
  · rw [List.drop_eq_nil_of_le h1] at h
    cases h
theorem num_at {xs : List Int} {r : Nat} (h : num xs = some r) :
    0 < xs.length ∧ ∃ p r', (p = 0 ∧ rd xs 0 ≠ 45 ∨ p = 1 ∧ rd xs 0 = 45) ∧ whole (xs.drop p) = some r' ∧ r = r' + p := by
  cases xs with
  | nil => cases h
  | cons c t =>
    refine ⟨by simp, ?_⟩
    have e : rd (c :: t) 0 = c := rfl
    rw [e]
    simp only [num] at h
    by_cases hc : c = 45
    · rw [if_pos hc] at h
      obtain ⟨r', h1, h2⟩ := map_add h
      exact ⟨1, r', .inr ⟨rfl, hc⟩, h1, h2⟩
    · rw [if_neg hc] at h
      exact ⟨0, r, .inl ⟨rfl, hc⟩, h, rfl⟩
end Go.Proofs.YtankdghamcbcbaaGreatDoor.JN
