/-
  PLAIN: lines and blanks, with no Go in sight. Bytes are a function f : Nat -> Int, of which the first n count.
-/
namespace Go.Proofs.Qxb6000360a.Pl

/-- No newline from p up to (not with) m. -/
def Plain (f : Nat → Int) (p m : Nat) : Prop := ∀ k, p ≤ k → k < m → f k ≠ 10

/-- Where the rest of the line from p on ends: np; t newlines were passed (0 or 1). -/
def Line (f : Nat → Int) (n p np t : Nat) : Prop := (np = n ∧ t = 0 ∧ Plain f p n) ∨ (t = 1 ∧ p < np ∧ np ≤ n ∧ f (np - 1) = 10 ∧ Plain f p (np - 1))

theorem line_unique {f : Nat → Int} {n p a s b t : Nat} (h : Line f n p a s) (h' : Line f n p b t) : a = b ∧ s = t := by
  rcases h with ⟨h1, h2, h3⟩ | ⟨h1, h2, h3, h4, h5⟩ <;> rcases h' with ⟨g1, g2, g3⟩ | ⟨g1, g2, g3, g4, g5⟩
  · omega
  · exact absurd g4 (h3 (b - 1) (by omega) (by omega))
  · exact absurd h4 (g3 (a - 1) (by omega) (by omega))
  · refine ⟨?_, by omega⟩
    rcases Nat.lt_trichotomy a b with e | e | e
    · exact absurd h4 (g5 (a - 1) (by omega) (by omega))
    · exact e
    · exact absurd g4 (h5 (b - 1) (by omega) (by omega))

/-- Blanks ahead of the line's rest change nothing. -/
theorem line_skip {f : Nat → Int} {n p q a t : Nat} (hpq : p ≤ q) (hb : Plain f p q) (h : Line f n q a t) : Line f n p a t := by
  have join : ∀ m, Plain f q m → Plain f p m := fun m hm k h1 h2 => by
    by_cases e : k < q
    · exact hb k h1 e
    · exact hm k (by omega) h2
  rcases h with ⟨h1, h2, h3⟩ | ⟨h1, h2, h3, h4, h5⟩
  · exact Or.inl ⟨h1, h2, join _ h3⟩
  · exact Or.inr ⟨h1, by omega, h3, h4, join _ h5⟩

/-- How many newlines there are among the first k bytes. -/
def cnt (f : Nat → Int) : Nat → Nat
  | 0 => 0
  | k + 1 => cnt f k + if f k = 10 then 1 else 0

theorem cnt_le (f : Nat → Int) : ∀ k, cnt f k ≤ k
  | 0 => Nat.le_refl _
  | k + 1 => by have := cnt_le f k; unfold cnt; split <;> omega

theorem cnt_yes {f : Nat → Int} {k : Nat} (h : f k = 10) : cnt f (k + 1) = cnt f k + 1 := by simp [cnt, h]
theorem cnt_no {f : Nat → Int} {k : Nat} (h : f k ≠ 10) : cnt f (k + 1) = cnt f k := by simp [cnt, h]

theorem cnt_plain {f : Nat → Int} {p : Nat} : ∀ m, Plain f p (p + m) → cnt f (p + m) = cnt f p
  | 0, _ => rfl
  | m + 1, h => by
    have ih := cnt_plain m (fun k h1 h2 => h k h1 (by omega))
    rw [← Nat.add_assoc, cnt_no (h (p + m) (by omega) (by omega)), ih]

theorem cnt_line {f : Nat → Int} {n p np t : Nat} (hp : p ≤ n) (h : Line f n p np t) : cnt f np = cnt f p + t := by
  rcases h with ⟨h1, h2, h3⟩ | ⟨h1, h2, h3, h4, h5⟩
  · have := cnt_plain (f := f) (p := p) (n - p) (by rwa [show p + (n - p) = n from by omega])
    rw [show p + (n - p) = n from by omega] at this
    rw [h1, h2, this]; rfl
  · have := cnt_plain (f := f) (p := p) (np - 1 - p) (by rwa [show p + (np - 1 - p) = np - 1 from by omega])
    rw [show p + (np - 1 - p) = np - 1 from by omega] at this
    have e := cnt_yes h4
    rw [show np - 1 + 1 = np from by omega] at e
    rw [e, this, h1]

theorem line_bounds {f : Nat → Int} {n p np t : Nat} (hp : p ≤ n) (h : Line f n p np t) : p ≤ np ∧ np ≤ n ∧ (p < n → p < np) ∧ t ≤ 1 := by
  rcases h with ⟨h1, h2, h3⟩ | ⟨h1, h2, h3, h4, h5⟩ <;> omega

/-- np is the first byte from p on that is no blank. -/
def isBl (c : Int) : Bool := decide (c = 32 ∨ c = 9)
def Blanks (f : Nat → Int) (n p np : Nat) : Prop := p ≤ np ∧ np ≤ n ∧ (∀ k, p ≤ k → k < np → isBl (f k) = true) ∧ (np < n → isBl (f np) = false)

theorem blanks_plain {f : Nat → Int} {n p np : Nat} (h : Blanks f n p np) : Plain f p np := fun k h1 h2 e => by
  have := h.2.2.1 k h1 h2
  rw [e] at this
  simp [isBl] at this

end Go.Proofs.Qxb6000360a.Pl
