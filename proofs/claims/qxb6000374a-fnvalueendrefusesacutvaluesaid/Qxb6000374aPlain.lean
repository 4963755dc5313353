/-
  PLAIN: the mathematics of the scanners, with no Go in sight. Bytes are a function f : Nat -> Int, of which the first n count.
-/
namespace Go.Proofs.Qxb6000374a.Pl

/-- Byte k is swallowed by a backslash before it, in a string whose opening quote is at s. -/
def esc (f : Nat → Int) (s : Nat) : Nat → Bool
  | 0 => false
  | k + 1 => decide (s < k) && (f k == 92) && !esc f s k

/-- Byte k closes the string that opened at s. -/
def Closes (f : Nat → Int) (s k : Nat) : Prop := f k = 34 ∧ esc f s k = false

/-- No byte from s + 1 up to (not with) m closes it. -/
def NoneTo (f : Nat → Int) (s m : Nat) : Prop := ∀ k, s < k → k < m → ¬ Closes f s k

/-- r is just past the string's closing quote. -/
def StrEnd (f : Nat → Int) (n s r : Nat) : Prop := s + 2 ≤ r ∧ r ≤ n ∧ Closes f s (r - 1) ∧ NoneTo f s (r - 1)

/-- The end of the string, n where it does not end. -/
def EndOr (f : Nat → Int) (n s r : Nat) : Prop := StrEnd f n s r ∨ (NoneTo f s n ∧ r = n)

theorem esc_start (f : Nat → Int) (s : Nat) : esc f s (s + 1) = false := by simp [esc]

theorem esc_not (f : Nat → Int) (s k : Nat) (h : f k ≠ 92) : esc f s (k + 1) = false := by simp [esc, h]

theorem esc_yes (f : Nat → Int) (s k : Nat) (hs : s < k) (h : f k = 92) (he : esc f s k = false) : esc f s (k + 1) = true := by simp [esc, h, he, hs]

theorem esc_after (f : Nat → Int) (s k : Nat) (he : esc f s k = true) : esc f s (k + 1) = false := by simp [esc, he]

theorem none_start (f : Nat → Int) (s : Nat) : NoneTo f s (s + 1) := fun k h1 h2 => by omega

theorem none_step {f : Nat → Int} {s m : Nat} (h : NoneTo f s m) (hm : ¬ Closes f s m) : NoneTo f s (m + 1) := by
  intro k h1 h2
  by_cases e : k = m
  · subst e; exact hm
  · exact h k h1 (by omega)

/-- The forward scanner's step over a backslash and the byte behind it. -/
theorem fwd_skip {f : Nat → Int} {s k : Nat} (hs : s < k) (h : NoneTo f s k) (he : esc f s k = false) (hk : f k = 92) : NoneTo f s (k + 2) ∧ esc f s (k + 2) = false := by
  have e1 := esc_yes f s k hs hk he
  refine ⟨none_step (none_step h (fun hc => by have := hc.1; omega)) (fun hc => ?_), esc_after f s (k + 1) e1⟩
  have := hc.2
  rw [e1] at this
  cases this

theorem fwd_plain {f : Nat → Int} {s k : Nat} (h : NoneTo f s k) (hk : f k ≠ 92) (hq : f k ≠ 34) : NoneTo f s (k + 1) ∧ esc f s (k + 1) = false :=
  ⟨none_step h (fun hc => hq hc.1), esc_not f s k hk⟩

theorem none_mono {f : Nat → Int} {s m m' : Nat} (h : NoneTo f s m) (hm : m' ≤ m) : NoneTo f s m' := fun k h1 h2 => h k h1 (by omega)

theorem fwd_close {f : Nat → Int} {n s k : Nat} (hs : s < k) (hk : k < n) (h : NoneTo f s k) (he : esc f s k = false) (hq : f k = 34) : EndOr f n s (k + 1) :=
  Or.inl ⟨by omega, by omega, ⟨hq, he⟩, h⟩

theorem fwd_out {f : Nat → Int} {n s k : Nat} (h : NoneTo f s k) (hk : n ≤ k) : EndOr f n s n := Or.inr ⟨none_mono h hk, rfl⟩

theorem strEnd_unique {f : Nat → Int} {n n' s r r' : Nat} (h : StrEnd f n s r) (h' : StrEnd f n' s r') : r = r' := by
  obtain ⟨a1, a2, a3, a4⟩ := h
  obtain ⟨b1, b2, b3, b4⟩ := h'
  rcases Nat.lt_trichotomy r r' with hl | hl | hl
  · exact absurd a3 (b4 (r - 1) (by omega) (by omega))
  · exact hl
  · exact absurd b3 (a4 (r' - 1) (by omega) (by omega))

theorem endOr_unique {f : Nat → Int} {n s r r' : Nat} (h : EndOr f n s r) (h' : EndOr f n s r') : r = r' := by
  rcases h with h | ⟨h, rfl⟩ <;> rcases h' with h' | ⟨h', rfl⟩
  · exact strEnd_unique h h'
  · obtain ⟨a1, a2, a3, _⟩ := h
    exact absurd a3 (h' (r - 1) (by omega) (by omega))
  · obtain ⟨a1, a2, a3, _⟩ := h'
    exact absurd a3 (h (r' - 1) (by omega) (by omega))
  · rfl

theorem endOr_bounds {f : Nat → Int} {n s r : Nat} (h : EndOr f n s r) (hs : s < n) : s < r ∧ r ≤ n := by
  rcases h with ⟨h1, h2, _, _⟩ | ⟨_, rfl⟩
  · exact ⟨by omega, h2⟩
  · exact ⟨hs, Nat.le_refl _⟩

/-- A run of t backslashes ahead of m, with another byte (or the opening quote) ahead of the run. -/
theorem esc_run (f : Nat → Int) (s j : Nat) (hj : s ≤ j) (h0 : f j ≠ 92 ∨ j = s) : ∀ t, (∀ i, j < i → i ≤ j + t → f i = 92) → esc f s (j + 1 + t) = (t % 2 == 1)
  | 0, _ => by
    rcases h0 with h | h
    · simpa using esc_not f s j h
    · subst h; simp [esc]
  | t + 1, h => by
    have ih := esc_run f s j hj h0 t (fun i a b => h i a (by omega))
    have hb : f (j + 1 + t) = 92 := h _ (by omega) (by omega)
    show esc f s ((j + 1 + t) + 1) = _
    rw [esc, ih, hb]
    have : s < j + 1 + t := by omega
    simp only [this, decide_true, beq_self_eq_true, Bool.true_and]
    rcases Nat.mod_two_eq_zero_or_one t with e | e
    · have : (t + 1) % 2 = 1 := by omega
      simp [e, this]
    · have : (t + 1) % 2 = 0 := by omega
      simp [e, this]

/-- The search for the next quote: nothing between closes the string. -/
theorem none_to_quote {f : Nat → Int} {s i e : Nat} (h : NoneTo f s i) (hq : ∀ k, i ≤ k → k < e → f k ≠ 34) : NoneTo f s e := by
  intro k h1 h2 hc
  by_cases hk : k < i
  · exact h k h1 hk hc
  · exact hq k (by omega) h2 hc.1

end Go.Proofs.Qxb6000374a.Pl
