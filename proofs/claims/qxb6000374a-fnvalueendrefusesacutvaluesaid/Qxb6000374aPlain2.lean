/-
  PLAIN, MORE: brackets, literals, blanks. No Go in sight.
-/
import Derived.Test.Qxb6000374aPlain
namespace Go.Proofs.Qxb6000374a.Pl

/-- One byte read by the bracket counter: the depth; 0: outside a string, 1: inside one, 2: inside one, behind a backslash. -/
def step (c : Int) (x : Int × Nat) : Int × Nat :=
  if x.2 = 2 then (x.1, 1)
  else if x.2 = 1 then (if c = 92 then (x.1, 2) else if c = 34 then (x.1, 0) else (x.1, 1))
  else if c = 34 then (x.1, 1)
  else if c = 123 ∨ c = 91 then (x.1 + 1, 0)
  else if c = 125 ∨ c = 93 then (x.1 - 1, 0)
  else (x.1, 0)

/-- The counter's state ahead of byte k, begun at byte s. -/
def st (f : Nat → Int) (s : Nat) : Nat → Int × Nat
  | 0 => (0, 0)
  | k + 1 => if k < s then (0, 0) else step (f k) (st f s k)

theorem st_start (f : Nat → Int) (s : Nat) : st f s s = (0, 0) := by
  cases s with
  | zero => rfl
  | succ s => simp [st]

theorem st_next (f : Nat → Int) (s k : Nat) (h : s ≤ k) : st f s (k + 1) = step (f k) (st f s k) := by
  rw [st, if_neg (by omega)]

/-- Behind byte s the depth has not been 0 up to (and with) k. -/
def Deep (f : Nat → Int) (s k : Nat) : Prop := ∀ j, s < j → j ≤ k → (st f s j).1 ≠ 0

theorem deep_start (f : Nat → Int) (s : Nat) : Deep f s s := fun j h1 h2 => by omega

theorem deep_step {f : Nat → Int} {s k : Nat} (h : Deep f s k) (hk : (st f s (k + 1)).1 ≠ 0) : Deep f s (k + 1) := by
  intro j h1 h2
  by_cases e : j = k + 1
  · rw [e]; exact hk
  · exact h j h1 (by omega)

/-- r is just past the bracket that closes the one at s. -/
def BrEnd (f : Nat → Int) (n s r : Nat) : Prop := s < r ∧ r ≤ n ∧ (st f s r).1 = 0 ∧ Deep f s (r - 1)

def BrOr (f : Nat → Int) (n s r : Nat) : Prop := BrEnd f n s r ∨ (Deep f s n ∧ r = n)

theorem brEnd_unique {f : Nat → Int} {n n' s r r' : Nat} (h : BrEnd f n s r) (h' : BrEnd f n' s r') : r = r' := by
  obtain ⟨a1, a2, a3, a4⟩ := h
  obtain ⟨b1, b2, b3, b4⟩ := h'
  rcases Nat.lt_trichotomy r r' with hl | hl | hl
  · exact absurd a3 (b4 r a1 (by omega))
  · exact hl
  · exact absurd b3 (a4 r' b1 (by omega))

theorem brOr_unique {f : Nat → Int} {n s r r' : Nat} (h : BrOr f n s r) (h' : BrOr f n s r') : r = r' := by
  rcases h with h | ⟨h, rfl⟩ <;> rcases h' with h' | ⟨h', rfl⟩
  · exact brEnd_unique h h'
  · obtain ⟨a1, a2, a3, _⟩ := h
    exact absurd a3 (h' r a1 a2)
  · obtain ⟨a1, a2, a3, _⟩ := h'
    exact absurd a3 (h r' a1 a2)
  · rfl

/-- What one byte makes of the counter outside a string. -/
theorem st_open {f : Nat → Int} {s k : Nat} {d : Int} (h : s ≤ k) (hk : st f s k = (d, 0)) (hc : f k = 123 ∨ f k = 91) : st f s (k + 1) = (d + 1, 0) := by
  rw [st_next f s k h, hk]
  rcases hc with e | e <;> simp [step, e]
theorem st_shut {f : Nat → Int} {s k : Nat} {d : Int} (h : s ≤ k) (hk : st f s k = (d, 0)) (hc : f k = 125 ∨ f k = 93) : st f s (k + 1) = (d - 1, 0) := by
  rw [st_next f s k h, hk]
  rcases hc with e | e <;> simp [step, e]
theorem st_quote {f : Nat → Int} {s k : Nat} {d : Int} (h : s ≤ k) (hk : st f s k = (d, 0)) (hc : f k = 34) : st f s (k + 1) = (d, 1) := by
  rw [st_next f s k h, hk]
  simp [step, hc]
theorem st_other {f : Nat → Int} {s k : Nat} {d : Int} (h : s ≤ k) (hk : st f s k = (d, 0)) (h1 : f k ≠ 34) (h2 : f k ≠ 123) (h3 : f k ≠ 91) (h4 : f k ≠ 125) (h5 : f k ≠ 93) : st f s (k + 1) = (d, 0) := by
  rw [st_next f s k h, hk]
  simp [step, h1, h2, h3, h4, h5]
theorem st_in_back {f : Nat → Int} {s k : Nat} {d : Int} (h : s ≤ k) (hk : st f s k = (d, 1)) (hc : f k = 92) : st f s (k + 1) = (d, 2) := by
  rw [st_next f s k h, hk]
  simp [step, hc]
theorem st_in_quote {f : Nat → Int} {s k : Nat} {d : Int} (h : s ≤ k) (hk : st f s k = (d, 1)) (hc : f k = 34) : st f s (k + 1) = (d, 0) := by
  rw [st_next f s k h, hk]
  simp [step, hc]
theorem st_in_other {f : Nat → Int} {s k : Nat} {d : Int} (h : s ≤ k) (hk : st f s k = (d, 1)) (h1 : f k ≠ 92) (h2 : f k ≠ 34) : st f s (k + 1) = (d, 1) := by
  rw [st_next f s k h, hk]
  simp [step, h1, h2]
theorem st_in_esc {f : Nat → Int} {s k : Nat} {d : Int} (h : s ≤ k) (hk : st f s k = (d, 2)) : st f s (k + 1) = (d, 1) := by
  rw [st_next f s k h, hk]
  simp [step]

/-- Inside a string the counter keeps its depth; its mode is the string's own. -/
theorem st_string {f : Nat → Int} {s k m : Nat} {d : Int} (h : s ≤ k) (hk : st f s k = (d, 0)) (hq : f k = 34) (hno : NoneTo f k m) :
    ∀ t, k + 1 + t ≤ m → st f s (k + 1 + t) = (d, if esc f k (k + 1 + t) then 2 else 1)
  | 0, _ => by rw [Nat.add_zero, st_quote h hk hq, esc_start]; rfl
  | t + 1, ht => by
    have ih := st_string h hk hq hno t (by omega)
    have hc := hno (k + 1 + t) (by omega) (by omega)
    show st f s ((k + 1 + t) + 1) = (d, if esc f k ((k + 1 + t) + 1) then 2 else 1)
    cases he : esc f k (k + 1 + t) with
    | true =>
      rw [he] at ih
      rw [esc_after f k _ he, st_in_esc (by omega) ih]
      rfl
    | false =>
      rw [he] at ih
      by_cases h92 : f (k + 1 + t) = 92
      · rw [esc_yes f k _ (by omega) h92 he, st_in_back (by omega) ih h92]
        rfl
      · have h34 : f (k + 1 + t) ≠ 34 := fun e => hc ⟨e, he⟩
        rw [esc_not f k _ h92, st_in_other (by omega) ih h92 h34]
        rfl

theorem st_string_depth {f : Nat → Int} {s k m j : Nat} {d : Int} (h : s ≤ k) (hk : st f s k = (d, 0)) (hq : f k = 34) (hno : NoneTo f k m) (h1 : k < j) (h2 : j ≤ m) : (st f s j).1 = d := by
  have := st_string h hk hq hno (j - (k + 1)) (by omega)
  rw [show k + 1 + (j - (k + 1)) = j from by omega] at this
  rw [this]

theorem st_string_end {f : Nat → Int} {n s k r : Nat} {d : Int} (h : s ≤ k) (hk : st f s k = (d, 0)) (hq : f k = 34) (hr : StrEnd f n k r) : st f s r = (d, 0) := by
  obtain ⟨a1, a2, ⟨a3, a3'⟩, a4⟩ := hr
  have := st_string h hk hq a4 (r - 1 - (k + 1)) (by omega)
  rw [show k + 1 + (r - 1 - (k + 1)) = r - 1 from by omega, a3'] at this
  have e := st_in_quote (by omega) this a3
  rwa [show r - 1 + 1 = r from by omega] at e

/-- The bracket counter passes over a string: whatever end was found for it, the depth is as it was, and outside it we are again where it did end. -/
theorem deep_string {f : Nat → Int} {n s k r : Nat} {d : Int} (h : s ≤ k) (hk : st f s k = (d, 0)) (hd : d ≠ 0) (hq : f k = 34) (hdeep : Deep f s k) (hr : EndOr f n k r) (hkn : k < n) :
    k < r ∧ r ≤ n ∧ (st f s r).1 = d ∧ (r < n → st f s r = (d, 0)) ∧ Deep f s r := by
  rcases hr with hr | ⟨hr, rfl⟩
  · have e := st_string_end h hk hq hr
    obtain ⟨a1, a2, a3, a4⟩ := hr
    refine ⟨by omega, a2, by rw [e], fun _ => e, fun j h1 h2 => ?_⟩
    by_cases hj : j ≤ k
    · exact hdeep j h1 hj
    · by_cases hjr : j = r
      · rw [hjr, e]; exact hd
      · rw [st_string_depth h hk hq a4 (by omega) (by omega)]; exact hd
  · refine ⟨hkn, Nat.le_refl _, st_string_depth h hk hq hr hkn (Nat.le_refl _), fun hh => absurd hh (by omega), fun j h1 h2 => ?_⟩
    by_cases hj : j ≤ k
    · exact hdeep j h1 hj
    · rw [st_string_depth h hk hq hr (by omega) h2]; exact hd

/-- The first byte from s on of which p is true; n where there is none. -/
def First (p : Int → Bool) (f : Nat → Int) (n s r : Nat) : Prop := s ≤ r ∧ r ≤ n ∧ (∀ k, s ≤ k → k < r → p (f k) = false) ∧ (r < n → p (f r) = true)

theorem first_unique {p : Int → Bool} {f : Nat → Int} {n s r r' : Nat} (h : First p f n s r) (h' : First p f n s r') : r = r' := by
  obtain ⟨a1, a2, a3, a4⟩ := h
  obtain ⟨b1, b2, b3, b4⟩ := h'
  rcases Nat.lt_trichotomy r r' with hl | hl | hl
  · have := a4 (by omega); rw [b3 r a1 hl] at this; cases this
  · exact hl
  · have := b4 (by omega); rw [a3 r' b1 hl] at this; cases this

theorem first_step {p : Int → Bool} {f : Nat → Int} {s k : Nat} (h : ∀ j, s ≤ j → j < k → p (f j) = false) (hk : p (f k) = false) : ∀ j, s ≤ j → j < k + 1 → p (f j) = false := by
  intro j h1 h2
  by_cases e : j = k
  · rw [e]; exact hk
  · exact h j h1 (by omega)

/-- What may follow a value. -/
def isDel (c : Int) : Bool := decide (c = 44 ∨ c = 58 ∨ c = 93 ∨ c = 125 ∨ c = 32 ∨ c = 9 ∨ c = 13 ∨ c = 10)

/-! Bytes that are not read do not matter. -/
theorem st_agree {f g : Nat → Int} {s n : Nat} (h : ∀ i, i < n → f i = g i) : ∀ k, k ≤ n → st f s k = st g s k
  | 0, _ => rfl
  | k + 1, hk => by
    show (if k < s then (0, 0) else step (f k) (st f s k)) = (if k < s then (0, 0) else step (g k) (st g s k))
    rw [st_agree h k (by omega), h k (by omega)]

theorem brEnd_agree {f g : Nat → Int} {s n m q : Nat} (h : ∀ i, i < n → f i = g i) (hq : BrEnd f m s q) (hqn : q ≤ n) {m' : Nat} (hm' : q ≤ m') : BrEnd g m' s q := by
  obtain ⟨a1, a2, a3, a4⟩ := hq
  refine ⟨a1, hm', by rw [← st_agree h q hqn]; exact a3, fun j h1 h2 => ?_⟩
  rw [← st_agree h j (by omega)]
  exact a4 j h1 h2

end Go.Proofs.Qxb6000374a.Pl
