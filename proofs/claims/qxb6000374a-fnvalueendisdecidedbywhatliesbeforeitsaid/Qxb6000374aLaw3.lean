import Derived.Test.Qxb6000374aValEnd
namespace Go.Proofs.Qxb6000374a
open Go.RowKit
set_option linter.unusedVariables false

theorem brRes_unique {f : Nat → Int} {n s : Nat} {r r' : Int} (h : BrRes f n s r) (h' : BrRes f n s r') : r = r' := by
  rcases h with ⟨q, rfl, h⟩ | ⟨rfl, h⟩ <;> rcases h' with ⟨q', rfl, h'⟩ | ⟨rfl, h'⟩
  · rw [Pl.brEnd_unique h h']
  · obtain ⟨a1, a2, a3, _⟩ := h
    exact absurd a3 (h' q a1 a2)
  · obtain ⟨a1, a2, a3, _⟩ := h'
    exact absurd a3 (h q' a1 a2)
  · rfl

theorem litRes_unique {f : Nat → Int} {n s : Nat} {r r' : Int} (h : LitRes f n s r) (h' : LitRes f n s r') : r = r' := by
  obtain ⟨q, h1, h2⟩ := h
  obtain ⟨q', h1', h2'⟩ := h'
  have := Pl.first_unique h1 h1'
  subst this
  rcases h2 with ⟨a, b⟩ | ⟨a, b⟩ <;> rcases h2' with ⟨a', b'⟩ | ⟨a', b'⟩ <;> omega

theorem brRes_more {f g : Nat → Int} {s n m : Nat} {r r2 : Int} (h : ∀ i, i < n → f i = g i) (hr : BrRes f n s r) (hr2 : BrRes g m s r2) (hnm : n ≤ m) : (0 ≤ r ∧ r2 = r) ∨ (r = -1 ∧ (r2 = -1 ∨ (n : Int) < r2)) := by
  rcases hr with ⟨q, rfl, hq⟩ | ⟨rfl, hno⟩
  · refine Or.inl ⟨by omega, ?_⟩
    have hqn : q ≤ n := hq.2.1
    exact brRes_unique hr2 (Or.inl ⟨q, rfl, Pl.brEnd_agree h hq hqn (by omega)⟩)
  · refine Or.inr ⟨rfl, ?_⟩
    rcases hr2 with ⟨q2, rfl, hq2⟩ | ⟨rfl, _⟩
    · refine Or.inr ?_
      obtain ⟨a1, a2, a3, a4⟩ := hq2
      rcases Nat.lt_or_ge n q2 with hh | hh
      · omega
      · refine absurd ?_ (hno q2 a1 hh)
        rw [Pl.st_agree h q2 hh]; exact a3
    · exact Or.inl rfl

/-- What an end that was found for the value at s says: where it lies, that a cut there keeps it, and what more bytes behind do. -/
def Found (f : Nat → Int) (n s m : Nat) (g0 : Int) (q : Nat) (r2 : Int) : Prop :=
  s < q ∧ q ≤ n ∧ (∀ r', ValRes f q s r' → r' = q) ∧
  ((f s = 34 ∨ f s = 123 ∨ f s = 91 ∨ q < n ∨ m = 0 ∨ Pl.isDel g0 = true) → r2 = q) ∧
  ((f s ≠ 34 ∧ f s ≠ 123 ∧ f s ≠ 91 ∧ ¬ q < n ∧ m ≠ 0 ∧ Pl.isDel g0 = false) → (q : Int) < r2)

theorem val_more {f g : Nat → Int} {s n m : Nat} {r r2 : Int} (hs : s < n) (hr : ValRes f n s r) (hr2 : ValRes (cat f n g) (n + m) s r2) :
    (r = -1 ∧ (r2 = -1 ∨ (n : Int) < r2)) ∨ ∃ q : Nat, r = q ∧ Found f n s m (g 0) q r2 := by
  have ag : ∀ i, i < n → f i = cat f n g i := fun i hi => (cat_lo hi).symm
  have es : cat f n g s = f s := cat_lo hs
  unfold ValRes at hr2
  rw [es] at hr2
  rcases hr with ⟨h34, hr⟩ | ⟨hb, hr⟩ | ⟨h1, h2, h3, hr⟩
  · have hr2' : StrRes (cat f n g) (n + m) s r2 := by
      rcases hr2 with ⟨_, h⟩ | ⟨h, _⟩ | ⟨h, _⟩
      · exact h
      · omega
      · omega
    rcases strRes_more ag hr hr2' (by omega) with ⟨h, e⟩ | h
    · rcases hr with ⟨q, rfl, hq⟩ | ⟨rfl, _⟩
      · refine Or.inr ⟨q, rfl, by have := hq.1; omega, hq.2.1, fun r' hr' => ?_, fun _ => e, fun hh => absurd h34 hh.1⟩
        rcases hr' with ⟨_, h'⟩ | ⟨h', _⟩ | ⟨h', _⟩
        · exact strRes_cut hq h'
        · omega
        · omega
      · omega
    · exact Or.inl h
  · have hr2' : BrRes (cat f n g) (n + m) s r2 := by
      rcases hr2 with ⟨h, _⟩ | ⟨_, h⟩ | ⟨_, h, h', _⟩
      · omega
      · exact h
      · omega
    rcases brRes_more ag hr hr2' (by omega) with ⟨h, e⟩ | h
    · rcases hr with ⟨q, rfl, hq⟩ | ⟨rfl, _⟩
      · refine Or.inr ⟨q, rfl, hq.1, hq.2.1, fun r' hr' => ?_, fun _ => e, fun hh => by omega⟩
        rcases hr' with ⟨h', _⟩ | ⟨_, h'⟩ | ⟨_, h', h'', _⟩
        · omega
        · exact brRes_unique h' (Or.inl ⟨q, rfl, Pl.brEnd_agree (n := q) (fun _ _ => rfl) hq (Nat.le_refl _) (Nat.le_refl _)⟩)
        · omega
      · omega
    · exact Or.inl h
  · have hr2' : LitRes (cat f n g) (n + m) s r2 := by
      rcases hr2 with ⟨h, _⟩ | ⟨h, _⟩ | ⟨_, _, _, h⟩
      · omega
      · omega
      · exact h
    obtain ⟨q, ⟨a1, a2, a3, a4⟩, hq⟩ := hr
    obtain ⟨q2, ⟨c1, c2, c3, c4⟩, hq2⟩ := hr2'
    have lo : ∀ k, k < n → Pl.isDel (cat f n g k) = Pl.isDel (f k) := fun k hk => by rw [cat_lo hk]
    have h12 : q ≤ q2 := by
      rcases Nat.lt_or_ge q2 q with hh | hh
      · have x1 := c4 (by omega)
        rw [lo q2 (by omega), a3 q2 c1 hh] at x1
        cases x1
      · exact hh
    have hqn : q < n → q2 = q := fun hlt => by
      rcases Nat.lt_or_ge q q2 with hh | hh
      · have x1 := c3 q a1 hh
        rw [lo q hlt, a4 hlt] at x1
        cases x1
      · omega
    rcases hq with ⟨e1, rfl⟩ | ⟨e1, rfl⟩
    · refine Or.inl ⟨rfl, Or.inl ?_⟩
      have := hqn (by omega)
      rcases hq2 with ⟨_, h⟩ | ⟨h, _⟩
      · exact h
      · omega
    · have er2 : r2 = (q2 : Int) := by
        rcases hq2 with ⟨h, _⟩ | ⟨_, h⟩
        · omega
        · exact h
      refine Or.inr ⟨q, rfl, e1, a2, fun r' hr' => ?_, fun hh => ?_, fun hh => ?_⟩
      · rcases hr' with ⟨h', _⟩ | ⟨h', _⟩ | ⟨_, _, _, h'⟩
        · omega
        · omega
        · exact litRes_unique h' ⟨q, ⟨a1, Nat.le_refl _, a3, fun hh => by omega⟩, Or.inr ⟨e1, rfl⟩⟩
      · rw [er2]
        by_cases hlt : q < n
        · rw [hqn hlt]
        · have hqe : q = n := by omega
          rcases Nat.lt_or_ge q q2 with hh2 | hh2
          · exfalso
            have x1 := c3 q a1 hh2
            rw [cat_hi (by omega), show q - n = 0 from by omega] at x1
            rcases hh with h | h | h | h | h | h
            · exact h1 h
            · exact h2 h
            · exact h3 h
            · omega
            · omega
            · rw [h] at x1; cases x1
          · omega
      · rw [er2]
        obtain ⟨_, _, _, k1, k2, k3⟩ := hh
        rcases Nat.lt_or_ge q q2 with hh2 | hh2
        · omega
        · exfalso
          have e : q2 = q := by omega
          have x1 := c4 (by omega)
          rw [e, cat_hi (by omega), show q - n = 0 from by omega, k3] at x1
          cases x1

set_option maxHeartbeats 400000 in
theorem follow_any (c : Int) (w : World) : Calls Try.prog 25 #[.int .u8 c] w fun e w' => w = w' ∧ e = .returned (.bool (Pl.isDel c)) := by
  by_cases h1 : c = 44
  · subst h1; go_enter Try.func25, Try.ntmps25; go_wp2; go_ret; exact ⟨rfl, rfl⟩
  by_cases h2 : c = 58
  · subst h2; go_enter Try.func25, Try.ntmps25; go_wp2; go_ret; exact ⟨rfl, rfl⟩
  by_cases h3 : c = 93
  · subst h3; go_enter Try.func25, Try.ntmps25; go_wp2; go_ret; exact ⟨rfl, rfl⟩
  by_cases h4 : c = 125
  · subst h4; go_enter Try.func25, Try.ntmps25; go_wp2; go_ret; exact ⟨rfl, rfl⟩
  by_cases h5 : c = 32
  · subst h5; go_enter Try.func25, Try.ntmps25; go_wp2; go_ret; exact ⟨rfl, rfl⟩
  by_cases h6 : c = 9
  · subst h6; go_enter Try.func25, Try.ntmps25; go_wp2; go_ret; exact ⟨rfl, rfl⟩
  by_cases h7 : c = 10
  · subst h7; go_enter Try.func25, Try.ntmps25; go_wp2; go_ret; exact ⟨rfl, rfl⟩
  by_cases h8 : c = 13
  · subst h8; go_enter Try.func25, Try.ntmps25; go_wp2; go_ret; exact ⟨rfl, rfl⟩
  have b1 := bfalse h1; have b2 := bfalse h2; have b3 := bfalse h3; have b4 := bfalse h4; have b5 := bfalse h5; have b6 := bfalse h6; have b7 := bfalse h7; have b8 := bfalse h8
  have HD : Hid (Pl.isDel c = false) := by simp only [Hid, Pl.isDel, decide_eq_false_iff_not]; omega
  clear h1 h2 h3 h4 h5 h6 h7 h8
  go_enter Try.func25, Try.ntmps25
  go_wp2
  go_ret
  exact ⟨rfl, ret_bool HD.out.symm⟩

set_option maxHeartbeats 400000 in
theorem zz24_yes (a b : Option Addr) (n c m d : Nat) (l : Int) (w : World) (hn : n + m ≤ 1048576) :
    Calls Try.prog 24 #[.slice a n c, .slice b m d, .int .i64 l] w fun e w' => w = w' ∧ e = .returned (.bool true) := by
  go_enter Try.func24, Try.ntmps24
  go_wp2
  go_ret
  exact ⟨rfl, rfl⟩

set_option maxHeartbeats 400000 in
theorem zz24_no (a b : Option Addr) (n c m d : Nat) (l : Int) (w : World) (hn : 1048576 < n + m) :
    Calls Try.prog 24 #[.slice a n c, .slice b m d, .int .i64 l] w fun e w' => w = w' ∧ e = .returned (.bool false) := by
  by_cases h1 : 1048576 < n
  · go_enter Try.func24, Try.ntmps24
    go_wp2
    go_ret
    exact ⟨rfl, rfl⟩
  · by_cases h2 : 1048576 < m
    · go_enter Try.func24, Try.ntmps24
      go_wp2
      go_ret
      exact ⟨rfl, rfl⟩
    · go_enter Try.func24, Try.ntmps24
      go_wp2
      go_ret
      exact ⟨rfl, rfl⟩

end Go.Proofs.Qxb6000374a
