/-
  PLAIN: the JSON-number automaton over a sequence of bytes, told by where it stops. No Go in sight.
-/
namespace Go.Proofs.Qxb6603995aMods

def dig (c : Int) : Bool := decide (48 ≤ c) && decide (c ≤ 57)
def ee (c : Int) : Bool := c == 101 || c == 69
def pm (c : Int) : Bool := c == 43 || c == 45
def stepN (s : Nat) (c : Int) : Option Nat :=
  match s with
  | 0 => if c = 45 then some 1 else if c = 48 then some 2 else if dig c = true then some 3 else none
  | 1 => if c = 48 then some 2 else if dig c = true then some 3 else none
  | 2 => if c = 46 then some 4 else if ee c = true then some 6 else none
  | 3 => if dig c = true then some 3 else if c = 46 then some 4 else if ee c = true then some 6 else none
  | 4 => if dig c = true then some 5 else none
  | 5 => if dig c = true then some 5 else if ee c = true then some 6 else none
  | 6 => if pm c = true then some 7 else if dig c = true then some 8 else none
  | 7 => if dig c = true then some 8 else none
  | 8 => if dig c = true then some 8 else none
  | _ => none
def accN (s : Nat) : Bool := s == 2 || s == 3 || s == 5 || s == 8

theorem dig_iff (c : Int) : dig c = true ↔ 48 ≤ c ∧ c ≤ 57 := by simp [dig]
theorem dig_not (c : Int) : dig c = false ↔ ¬ (48 ≤ c ∧ c ≤ 57) := by
  rw [← Bool.not_eq_true, dig_iff]

theorem stepN_zero (s : Nat) : stepN s 0 = none := by
  unfold stepN
  split <;> simp [dig, ee, pm]

theorem stepN_le (s t : Nat) (c : Int) (h : stepN s c = some t) : t ≤ 8 := by
  unfold stepN at h
  split at h
  all_goals (repeat' split at h) <;> simp at h <;> omega

/-- the automaton, begun in state s at place i, stops at place e in state t -/
def Stops (g : Nat → Int) (s i e t : Nat) : Prop :=
  ∃ p : Nat → Nat, p i = s ∧ p e = t ∧ i ≤ e ∧ (∀ j, i ≤ j → j < e → stepN (p j) (g j) = some (p (j + 1))) ∧ stepN t (g e) = none

theorem Stops.here {g : Nat → Int} {s i : Nat} (h : stepN s (g i) = none) : Stops g s i i s :=
  ⟨fun _ => s, rfl, rfl, Nat.le_refl _, fun j h1 h2 => by omega, h⟩

theorem Stops.cons {g : Nat → Int} {s s' i e t : Nat} (h : stepN s (g i) = some s') (k : Stops g s' (i + 1) e t) : Stops g s i e t := by
  obtain ⟨p, h1, h2, h3, h4, h5⟩ := k
  refine ⟨fun j => if j ≤ i then s else p j, by simp, by simp only []; rw [if_neg (by omega)]; exact h2, by omega, fun j a b => ?_, h5⟩
  by_cases hj : j = i
  · subst hj
    simp only []
    rw [if_pos (Nat.le_refl _), if_neg (by omega), h1]; exact h
  · simp only []
    rw [if_neg (by omega), if_neg (by omega)]; exact h4 j (by omega) b

theorem Stops.det {g : Nat → Int} {s i e t e' t' : Nat} (h : Stops g s i e t) (k : Stops g s i e' t') : e = e' ∧ t = t' := by
  obtain ⟨p, h1, h2, h3, h4, h5⟩ := h
  obtain ⟨q, k1, k2, k3, k4, k5⟩ := k
  have same : ∀ n, i + n ≤ e → i + n ≤ e' → p (i + n) = q (i + n) := by
    intro n
    induction n with
    | zero => intro _ _; simp [h1, k1]
    | succ n ih =>
      intro a b
      have := ih (by omega) (by omega)
      have x := h4 (i + n) (by omega) (by omega)
      have y := k4 (i + n) (by omega) (by omega)
      rw [this, y] at x
      simp only [Option.some.injEq] at x
      rw [← Nat.add_assoc, x]
  have hee : e = e' := by
    rcases Nat.lt_trichotomy e e' with a | a | a
    · have := same (e - i) (by omega) (by omega)
      rw [show i + (e - i) = e by omega, h2] at this
      have y := k4 e (by omega) a
      rw [← this, h5] at y
      cases y
    · exact a
    · have := same (e' - i) (by omega) (by omega)
      rw [show i + (e' - i) = e' by omega, k2] at this
      have y := h4 e' (by omega) a
      rw [this, k5] at y
      cases y
  subst hee
  refine ⟨rfl, ?_⟩
  have := same (e - i) (by omega) (by omega)
  rw [show i + (e - i) = e by omega, h2, k2] at this
  exact this

/-- over digits the states 3, 5 and 8 stay -/
theorem Stops.digits {g : Nat → Int} {s i e t : Nat} (hs : s = 3 ∨ s = 5 ∨ s = 8) : ∀ (n q : Nat), q = i + n → (∀ j, i ≤ j → j < q → dig (g j) = true) → Stops g s q e t → Stops g s i e t := by
  intro n
  induction n generalizing i with
  | zero => intro q hq _ h; rw [hq] at h; exact h
  | succ n ih =>
    intro q hq hd h
    refine Stops.cons (s' := s) ?_ (ih q (by omega) (fun j a b => hd j (by omega) b) h)
    have := hd i (Nat.le_refl _) (by omega)
    rcases hs with rfl | rfl | rfl <;> simp [stepN, this]

theorem Stops.le {g : Nat → Int} {i e t len : Nat} (h : Stops g 0 i e t) (h0 : ∀ j, len ≤ j → g j = 0) (hi : i ≤ len) : i ≤ e ∧ e ≤ len := by
  obtain ⟨p, h1, h2, h3, h4, h5⟩ := h
  refine ⟨h3, ?_⟩
  apply Nat.le_of_not_lt
  intro hlt
  have := h4 len hi hlt
  rw [h0 len (Nat.le_refl _), stepN_zero] at this
  cases this

/-- what lies behind the stop bears nothing -/
theorem Stops.cut {g g' : Nat → Int} {s i e t : Nat} (h : Stops g s i e t) (h1 : ∀ j, j < e → g' j = g j) (h2 : g' e = 0) : Stops g' s i e t := by
  obtain ⟨p, a, b, c, d, f⟩ := h
  exact ⟨p, a, b, c, fun j x y => by rw [h1 j y]; exact d j x y, by rw [h2]; exact stepN_zero _⟩
theorem Stops.shift {g g' : Nat → Int} {s i e t : Nat} (h : Stops g s i e t) (h1 : ∀ j, j < e - i → g' j = g (i + j)) (h2 : g' (e - i) = 0) : Stops g' s 0 (e - i) t := by
  obtain ⟨p, a, b, c, d, f⟩ := h
  refine ⟨fun j => p (i + j), a, by simp only []; rw [show i + (e - i) = e by omega]; exact b, Nat.zero_le _, fun j x y => by simp only []; rw [h1 j y]; exact d (i + j) (by omega) (by omega), by rw [h2]; exact stepN_zero _⟩
theorem Stops.moved {g : Nat → Int} {i e t : Nat} (h : Stops g 0 i e t) (ht : accN t = true) : e ≠ i := by
  rintro rfl
  obtain ⟨p, a, b, _⟩ := h
  rw [a] at b
  subst b
  cases ht

end Go.Proofs.Qxb6603995aMods
