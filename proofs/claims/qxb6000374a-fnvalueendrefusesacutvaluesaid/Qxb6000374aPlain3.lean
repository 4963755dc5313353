/-
  PLAIN, MORE: what a written text makes of the bracket counter. No Go in sight.
-/
import Derived.Test.Qxb6000374aPlain2
namespace Go.Proofs.Qxb6000374a.Pl

/-- The counter behind the bytes bs, begun at x. -/
def run (x : Int × Nat) (bs : List Int) : Int × Nat := bs.foldl (fun y c => step c y) x

/-- Behind each of the bytes the depth is at least 1. -/
def Pos : Int × Nat → List Int → Prop
  | _, [] => True
  | x, c :: cs => 1 ≤ (step c x).1 ∧ Pos (step c x) cs

theorem run_nil (x : Int × Nat) : run x [] = x := rfl
theorem run_cons (x : Int × Nat) (c : Int) (bs : List Int) : run x (c :: bs) = run (step c x) bs := rfl
theorem run_append (x : Int × Nat) (a b : List Int) : run x (a ++ b) = run (run x a) b := by simp [run]

theorem pos_append : ∀ (a b : List Int) (x : Int × Nat), Pos x (a ++ b) ↔ Pos x a ∧ Pos (run x a) b
  | [], b, x => by simp [Pos, run]
  | c :: a, b, x => by
    rw [List.cons_append, Pos, Pos, run_cons, pos_append a b (step c x)]
    constructor
    · rintro ⟨h1, h2, h3⟩; exact ⟨⟨h1, h2⟩, h3⟩
    · rintro ⟨⟨h1, h2⟩, h3⟩; exact ⟨h1, h2, h3⟩

theorem pos_take : ∀ (xs : List Int) (x : Int × Nat), Pos x xs → ∀ k, 0 < k → k ≤ xs.length → 1 ≤ (run x (xs.take k)).1
  | [], _, _, k, h1, h2 => by simp at h2; omega
  | c :: xs, x, h, k, h1, h2 => by
    obtain ⟨h3, h4⟩ := h
    obtain ⟨j, rfl⟩ : ∃ j, k = j + 1 := ⟨k - 1, by omega⟩
    rw [List.take_succ_cons, run_cons]
    by_cases hj : j = 0
    · subst hj; simpa [run] using h3
    · exact pos_take xs _ h4 j (by omega) (by simpa using h2)

theorem st_run (f : Nat → Int) (xs : List Int) (h : ∀ i, i < xs.length → f i = xs.getD i 0) : ∀ k, k ≤ xs.length → st f 0 k = run (0, 0) (xs.take k)
  | 0, _ => rfl
  | k + 1, hk => by
    rw [st_next f 0 k (Nat.zero_le _), st_run f xs h k (by omega), List.take_succ_eq_append_getElem (by omega), run_append]
    rw [h k (by omega), List.getD_eq_getElem?_getD, List.getElem?_eq_getElem (by omega)]
    rfl

/-- They are bytes. -/
def Byt (xs : List Int) : Prop := ∀ x ∈ xs, 0 ≤ x ∧ x ≤ 255

theorem byt_append {a b : List Int} (ha : Byt a) (hb : Byt b) : Byt (a ++ b) := fun x hx => by
  rcases List.mem_append.1 hx with h | h
  · exact ha x h
  · exact hb x h

/-- A text that opens with a bracket which is not closed yet: depth d, mode m. -/
def Tx (xs : List Int) (d : Int) (m : Nat) : Prop := run (0, 0) xs = (d, m) ∧ Pos (0, 0) xs ∧ xs.head? = some 91 ∧ Byt xs

theorem tx_start : Tx [91] 1 0 := ⟨by simp [run, step], by simp [Pos, step], rfl, by simp [Byt]⟩

theorem Tx.app {xs bs : List Int} {d d' : Int} {m m' : Nat} (h : Tx xs d m) (hr : run (d, m) bs = (d', m')) (hp : Pos (d, m) bs) (hb : Byt bs) : Tx (xs ++ bs) d' m' := by
  obtain ⟨h1, h2, h3, h4⟩ := h
  refine ⟨by rw [run_append, h1, hr], (pos_append _ _ _).2 ⟨h2, by rw [h1]; exact hp⟩, ?_, byt_append h4 hb⟩
  cases xs with
  | nil => cases h3
  | cons c cs => exact h3

/-- A byte that means nothing outside a string. -/
def Dull (c : Int) : Prop := c ≠ 34 ∧ c ≠ 123 ∧ c ≠ 91 ∧ c ≠ 125 ∧ c ≠ 93 ∧ 0 ≤ c ∧ c ≤ 255

theorem step_dull {c d : Int} (h : Dull c) : step c (d, 0) = (d, 0) := by
  obtain ⟨h1, h2, h3, h4, h5, _⟩ := h
  simp [step, h1, h2, h3, h4, h5]

theorem run_dull : ∀ (bs : List Int) {d : Int}, (∀ c ∈ bs, Dull c) → 1 ≤ d → run (d, 0) bs = (d, 0) ∧ Pos (d, 0) bs
  | [], d, _, _ => ⟨rfl, trivial⟩
  | c :: bs, d, h, hd => by
    have e := step_dull (d := d) (h c (by simp))
    have ih := run_dull bs (d := d) (fun c hc => h c (by simp [hc])) hd
    rw [run_cons, Pos, e]
    exact ⟨ih.1, hd, ih.2⟩

theorem Tx.dull {xs bs : List Int} {d : Int} (h : Tx xs d 0) (hd : 1 ≤ d) (hb : ∀ c ∈ bs, Dull c) : Tx (xs ++ bs) d 0 :=
  h.app (run_dull bs hb hd).1 (run_dull bs hb hd).2 (fun x hx => (hb x hx).2.2.2.2.2)

theorem Tx.key {xs : List Int} {d : Int} (h : Tx xs d 0) (hd : 1 ≤ d) : Tx (xs ++ [34, 107, 34, 58]) d 0 :=
  h.app (by simp [run, step]) (by simp [Pos, step]; omega) (by simp [Byt])
theorem Tx.opens {xs : List Int} {d c : Int} (h : Tx xs d 0) (hd : 1 ≤ d) (hc : c = 123 ∨ c = 91) : Tx (xs ++ [c]) (d + 1) 0 := by
  rcases hc with rfl | rfl
  · exact h.app (by simp [run, step]) (by simp [Pos, step]; omega) (by simp [Byt])
  · exact h.app (by simp [run, step]) (by simp [Pos, step]; omega) (by simp [Byt])
theorem Tx.shuts {xs : List Int} {d c : Int} (h : Tx xs d 0) (hd : 2 ≤ d) (hc : c = 125 ∨ c = 93) : Tx (xs ++ [c]) (d - 1) 0 := by
  rcases hc with rfl | rfl
  · exact h.app (by simp [run, step]) (by simp [Pos, step]; omega) (by simp [Byt])
  · exact h.app (by simp [run, step]) (by simp [Pos, step]; omega) (by simp [Byt])
theorem Tx.quote {xs : List Int} {d : Int} (h : Tx xs d 0) (hd : 1 ≤ d) : Tx (xs ++ [34]) d 1 :=
  h.app (by simp [run, step]) (by simp [Pos, step]; omega) (by simp [Byt])
theorem Tx.unquote {xs : List Int} {d : Int} (h : Tx xs d 1) (hd : 1 ≤ d) : Tx (xs ++ [34]) d 0 :=
  h.app (by simp [run, step]) (by simp [Pos, step]; omega) (by simp [Byt])
theorem Tx.inEsc {xs : List Int} {d c : Int} (h : Tx xs d 1) (hd : 1 ≤ d) (hc : 0 ≤ c ∧ c ≤ 255) : Tx (xs ++ [92, c]) d 1 :=
  h.app (by simp [run, step]) (by simp [Pos, step]; omega) (by simp [Byt]; omega)
theorem Tx.inPlain {xs : List Int} {d c : Int} (h : Tx xs d 1) (hd : 1 ≤ d) (hc : 0 ≤ c ∧ c ≤ 255) (h1 : c ≠ 34) (h2 : c ≠ 92) : Tx (xs ++ [c]) d 1 :=
  h.app (by simp [run, step, h1, h2]) (by simp [Pos, step, h1, h2]; omega) (by simp [Byt]; omega)
theorem Tx.inHex {xs : List Int} {d a b : Int} (h : Tx xs d 1) (hd : 1 ≤ d) (ha : 0 ≤ a ∧ a ≤ 255) (hb : 0 ≤ b ∧ b ≤ 255) (h1 : a ≠ 34) (h2 : a ≠ 92) (h3 : b ≠ 34) (h4 : b ≠ 92) : Tx (xs ++ [92, 117, 48, 48, a, b]) d 1 :=
  h.app (by simp [run, step, h1, h2, h3, h4]) (by simp [Pos, step, h1, h2, h3, h4]; omega) (by simp [Byt]; omega)

/-- A whole text: its last byte closes the bracket that it opens with. -/
def Fin (xs : List Int) : Prop := ∃ ys c, xs = ys ++ [c] ∧ Tx ys 1 0 ∧ 0 ≤ c ∧ c ≤ 255

theorem fin_deep {xs : List Int} (h : Fin xs) (f : Nat → Int) (hf : ∀ i, i < xs.length → f i = xs.getD i 0) : 2 ≤ xs.length ∧ f 0 = 91 ∧ ∀ k, k < xs.length → Deep f 0 k := by
  obtain ⟨ys, c, rfl, ⟨h1, h2, h3, _⟩, _⟩ := h
  have hy : 1 ≤ ys.length := by cases ys with | nil => cases h3 | cons a as => simp
  refine ⟨by simp; omega, ?_, fun k hk j h4 h5 => ?_⟩
  · rw [hf 0 (by simp)]
    cases ys with
    | nil => cases h3
    | cons a as => simp at h3; simp [h3]
  · simp at hk
    rw [st_run f _ hf j (by simp; omega), List.take_append_of_le_length (by omega)]
    have := pos_take ys (0, 0) h2 j h4 (by omega)
    omega

theorem fin_byt {xs : List Int} (h : Fin xs) : ∀ i, 0 ≤ xs.getD i 0 ∧ xs.getD i 0 ≤ 255 := by
  obtain ⟨ys, c, rfl, ⟨_, _, _, h4⟩, hc⟩ := h
  have hb : Byt (ys ++ [c]) := byt_append h4 (by intro x hx; simp at hx; omega)
  intro i
  by_cases hi : i < (ys ++ [c]).length
  · rw [List.getD_eq_getElem?_getD, List.getElem?_eq_getElem hi]
    exact hb _ (List.getElem_mem hi)
  · rw [List.getD_eq_getElem?_getD, List.getElem?_eq_none (by omega)]
    simp

theorem Tx.fin {xs : List Int} {c : Int} (h : Tx xs 1 0) (hc : c = 125 ∨ c = 93) : Fin (xs ++ [c]) := ⟨xs, c, rfl, h, by omega, by omega⟩

end Go.Proofs.Qxb6000374a.Pl
