import Derived.Test.Qxb6000374aStr
namespace Go.Proofs.Qxb6000374a
open Go.RowKit
set_option linter.unusedVariables false

/-- f's first n bytes, then g's. -/
def cat (f : Nat → Int) (n : Nat) (g : Nat → Int) : Nat → Int := fun i => if i < n then f i else g (i - n)

theorem cat_lo {f g : Nat → Int} {n i : Nat} (h : i < n) : cat f n g i = f i := by simp [cat, h]
theorem cat_hi {f g : Nat → Int} {n i : Nat} (h : n ≤ i) : cat f n g i = g (i - n) := by simp [cat, show ¬ i < n by omega]
theorem cat_byte {f g : Nat → Int} (n : Nat) (hf : ∀ i, 0 ≤ f i ∧ f i ≤ 255) (hg : ∀ i, 0 ≤ g i ∧ g i ≤ 255) : ∀ i, 0 ≤ cat f n g i ∧ cat f n g i ≤ 255 := by
  intro i
  unfold cat
  split
  · exact hf i
  · exact hg _

/-- A slice of the call's own (nil, or at the head of a block): n bytes, f's. -/
def Src (w : World) (ao : Option Addr) (n : Nat) (f : Nat → Int) : Prop := (ao = none ∧ n = 0) ∨ ∃ b, ao = some ⟨b, 0, none⟩ ∧ b < w.heap.size ∧ Row w b 0 n f

theorem Src.below {w w' : World} {ao : Option Addr} {n B : Nat} {f : Nat → Int} (h : Src w ao n f) (hb : Below B w w') (hB : w.heap.size ≤ B) : Src w' ao n f := by
  rcases h with h | ⟨b, h1, h2, h3⟩
  · exact Or.inl h
  · exact Or.inr ⟨b, h1, Nat.lt_of_lt_of_le h2 hb.size, h3.below hb (by omega)⟩

def bytesV (f : Nat → Int) (n : Nat) : List Value := (List.range n).map fun i => Value.int .u8 (f i)

theorem bytesV_len (f : Nat → Int) (n : Nat) : (bytesV f n).length = n := by simp [bytesV]
theorem bytesV_get {f : Nat → Int} {n j : Nat} (h : j < n) : (bytesV f n)[j]? = some (.int .u8 (f j)) := by simp [bytesV, h]
theorem bytesV_one (f : Nat → Int) (n : Nat) : ∀ u ∈ bytesV f n, u.oneCell' = true := by
  intro u hu
  obtain ⟨_, _, rfl⟩ := List.mem_map.1 hu
  rfl

theorem src_none {w : World} {ao : Option Addr} {n : Nat} {f : Nat → Int} (h : Src w ao n f) : ao = none → n = 0 ∧ n = 0 := by
  intro e
  rcases h with ⟨_, h⟩ | ⟨b, h1, _⟩
  · exact ⟨h, h⟩
  · rw [e] at h1; cases h1

theorem src_cells {w : World} {ao : Option Addr} {n : Nat} {f : Nat → Int} (h : Src w ao n f) : ∀ ad, ao = some ad → ∀ j u, (bytesV f n)[j]? = some u → w.cell? (ad.add j) = some u := by
  intro ad e j u hu
  have hj : j < n := by have := (List.getElem?_eq_some_iff.1 hu).1; rwa [bytesV_len] at this
  rw [bytesV_get hj] at hu
  obtain rfl := Option.some.inj hu
  rcases h with ⟨h, _⟩ | ⟨b, h1, _, h3⟩
  · rw [e] at h; cases h
  · rw [e] at h1
    obtain rfl := Option.some.inj h1
    have := h3 j hj
    rw [Addr.add_lit]
    exact this

theorem cat_row {w : World} {n m g0 : Nat} {f g : Nat → Int} {B : Nat} (h : w.ownsRow B 5 1 (.slice (some ⟨g0, 0, none⟩) (n + m) (n + m)) (n + m) (bytesV f n ++ bytesV g m)) : Row w g0 0 (n + m) (cat f n g) := by
  intro i hi
  rw [Nat.zero_add, h.cellAt i (by omega)]
  by_cases hin : i < n
  · rw [List.getElem?_append_left (by rw [bytesV_len]; exact hin), bytesV_get hin, cat_lo hin]
  · rw [List.getElem?_append_right (by rw [bytesV_len]; omega), bytesV_len, bytesV_get (by omega), cat_hi (by omega)]

set_option maxHeartbeats 800000 in
theorem concat_any (aa ab : Option Addr) (n m : Nat) (f g : Nat → Int) (w : World) (hn : n ≤ 1048576) (hm : m ≤ 1048576) (hA : Src w aa n f) (hB : Src w ab m g) :
    Calls Try.prog 17 #[.slice aa n n, .slice ab m m] w fun e w' => e = .returned (.slice (some ⟨w.heap.size, 0, none⟩) (n + m) (n + m)) ∧ Row w' w.heap.size 0 (n + m) (cat f n g) ∧ Below w.heap.size w w' ∧ w.heap.size < w'.heap.size := by
  obtain ⟨i0, hi, hz0, hz1, hz2⟩ := info_parts info5
  go_enter Try.func17, Try.ntmps17
  go_wp2_with (at_make; refine wpList_make_own _ rfl _ _ 22 rfl w.heap.size 5 i0 (.int .u8 0) 1 Try.underlying22 hi hz0 hz1 _ _ _ (n + m) rfl rfl (by omega) (by rw [hz2]; omega) (by unfold maxLen; omega) (Nat.le_refl _) ?_)
  intro w1 hown1 hgrow1
  have hbel1 : Below w.heap.size w w1 := (Below.refl _ _).grown hgrow1 (Nat.le_refl _) (by intro k h; cases h)
  have hA1 := hA.below hbel1 (Nat.le_refl _)
  have hB1 := hB.below hbel1 (Nat.le_refl _)
  have hnA := src_none hA1
  have hcA := src_cells hA1
  go_wp2_with (at_builtin; refine wpList_append_fits_any _ rfl (.tmp 12) (.tmp 13) 22 rfl w.heap.size 5 i0 1 Try.underlying22 hi hz1 w.heap.size 0 (n + m) _ rfl hown1 aa n n (bytesV f n) rfl (by rw [bytesV_len]; omega) hnA hcA (bytesV_one f n) (by omega) ?_)
  intro w2 hown2 hgrow2
  have hbel2 : Below w.heap.size w w2 := hbel1.grown hgrow2 (by have := hbel1.size; omega) (by intro k h; cases h; exact Nat.le_refl _)
  have hB2 := hB.below hbel2 (Nat.le_refl _)
  have hnB := src_none hB2
  have hcB := src_cells hB2
  clear hown1 hgrow1 hgrow2 hbel1 hA1 hB1 hnA hcA
  go_wp2_with (at_builtin; refine wpList_append_fits_any _ rfl (.tmp 15) (.tmp 16) 22 rfl w.heap.size 5 i0 1 Try.underlying22 hi hz1 w.heap.size n (n + m) _ rfl hown2 ab m m (bytesV g m) rfl (by rw [bytesV_len]; omega) hnB hcB (bytesV_one g m) (by omega) ?_)
  intro w3 hown3 hgrow3
  have hbel3 : Below w.heap.size w w3 := hbel2.grown hgrow3 (by have := hbel2.size; omega) (by intro k h; cases h; exact Nat.le_refl _)
  have hrow := cat_row hown3
  have hsz := owns_size hown3
  clear hown2 hown3 hgrow3 hbel2 hB2 hnB hcB
  go_wp2
  go_ret
  exact ⟨rfl, hrow, hbel3, hsz⟩

theorem Src.mk {w : World} {b n : Nat} {f : Nat → Int} (h : Row w b 0 n f) (hb : b < w.heap.size) : Src w (some ⟨b, 0, none⟩) n f := Or.inr ⟨b, rfl, hb, h⟩

/-- What is told of a slice that came in. -/
def Came (w : World) (ao : Option Addr) (n c : Nat) (f : Nat → Int) : Prop := (ao = none ∧ n = 0 ∧ c = 0) ∨ ∃ x, ao = some x ∧ (n = 0 ∨ x.block < w.heap.size) ∧ ∀ i, i < n → w.cell? (x.add i) = some (.int .u8 (f i))

theorem Came.below {w w' : World} {ao : Option Addr} {n c : Nat} {f : Nat → Int} (h : Came w ao n c f) (hb : Below w.heap.size w w') : Came w' ao n c f := by
  rcases h with h | ⟨x, h1, h2, h3⟩
  · exact Or.inl h
  · refine Or.inr ⟨x, h1, ?_, fun i hi => ?_⟩
    · rcases h2 with h2 | h2
      · exact Or.inl h2
      · exact Or.inr (Nat.lt_of_lt_of_le h2 hb.size)
    · have hx : x.block < w.heap.size := by omega
      exact (hb.cell (p := x.add i) (by unfold Addr.add; split <;> exact hx)).trans (h3 i hi)

theorem clone_src (ao : Option Addr) (n c : Nat) (f : Nat → Int) (w : World) (hn : n ≤ 1048576) (h : Came w ao n c f) :
    Calls Try.prog 13 #[.slice ao n c] w fun e w' => ∃ a', e = .returned (.slice a' n n) ∧ Src w' a' n f ∧ Below w.heap.size w w' := by
  rcases h with ⟨rfl, rfl, rfl⟩ | ⟨x, rfl, h2, h3⟩
  · exact (clone_nil w).mono fun e w' ⟨h1, h2⟩ => ⟨none, h2, Or.inl ⟨rfl, rfl⟩, by rw [h1]; exact Below.refl _ _⟩
  · exact (clone_any x n c f w hn h2 h3).mono fun e w' ⟨h1, h4, h5, h6⟩ => ⟨_, h1, Or.inr ⟨_, rfl, h6, h4⟩, h5⟩

/-! Bytes that are not read do not matter. -/
theorem esc_agree {f g : Nat → Int} {s n : Nat} (h : ∀ i, i < n → f i = g i) : ∀ k, k ≤ n → Pl.esc f s k = Pl.esc g s k
  | 0, _ => rfl
  | k + 1, hk => by
    show (decide (s < k) && (f k == 92) && !Pl.esc f s k) = (decide (s < k) && (g k == 92) && !Pl.esc g s k)
    rw [esc_agree h k (by omega), h k (by omega)]

theorem closes_agree {f g : Nat → Int} {s n k : Nat} (h : ∀ i, i < n → f i = g i) (hk : k < n) : Pl.Closes f s k ↔ Pl.Closes g s k := by
  unfold Pl.Closes
  rw [esc_agree h k (by omega), h k hk]

theorem strEnd_agree {f g : Nat → Int} {s n m q : Nat} (h : ∀ i, i < n → f i = g i) (hq : Pl.StrEnd f m s q) (hqn : q ≤ n) {m' : Nat} (hm' : q ≤ m') : Pl.StrEnd g m' s q := by
  obtain ⟨a1, a2, a3, a4⟩ := hq
  refine ⟨a1, hm', (closes_agree h (by omega)).1 a3, fun k h1 h2 hc => a4 k h1 h2 ((closes_agree h (by omega)).2 hc)⟩

/-- More bytes behind: an end that was found stays; where there was none, there is none or one past the old bytes. -/
theorem strRes_more {f g : Nat → Int} {s n m : Nat} {r r2 : Int} (h : ∀ i, i < n → f i = g i) (hr : StrRes f n s r) (hr2 : StrRes g m s r2) (hnm : n ≤ m) : (0 ≤ r ∧ r2 = r) ∨ (r = -1 ∧ (r2 = -1 ∨ (n : Int) < r2)) := by
  rcases hr with ⟨q, rfl, hq⟩ | ⟨rfl, hno⟩
  · refine Or.inl ⟨by omega, ?_⟩
    have hqn : q ≤ n := hq.2.1
    exact strRes_unique hr2 (Or.inl ⟨q, rfl, strEnd_agree h hq hqn (by omega)⟩)
  · refine Or.inr ⟨rfl, ?_⟩
    rcases hr2 with ⟨q2, rfl, hq2⟩ | ⟨rfl, _⟩
    · refine Or.inr ?_
      obtain ⟨a1, a2, a3, a4⟩ := hq2
      rcases Nat.lt_or_ge n q2 with hh | hh
      · omega
      · exact absurd ((closes_agree h (by omega)).2 a3) (hno (q2 - 1) (by omega) (by omega))
    · exact Or.inl rfl

/-- Cut at the end that was found: it is found again. -/
theorem strRes_cut {f : Nat → Int} {s n q : Nat} {r' : Int} (hq : Pl.StrEnd f n s q) (hr : StrRes f q s r') : r' = q :=
  strRes_unique hr (Or.inl ⟨q, rfl, strEnd_agree (n := q) (fun _ _ => rfl) hq (Nat.le_refl _) (Nat.le_refl _)⟩)

end Go.Proofs.Qxb6000374a
