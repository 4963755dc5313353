import Derived.Test.Qxb6000374aStr
namespace Go.Proofs.Qxb6000374a
open Go.RowKit

set_option maxHeartbeats 400000 in
theorem zz12_yes (a : Option Addr) (n c : Nat) (l : Int) (w : World) (hn : n ≤ 1048576) :
    Calls Try.prog 12 #[.slice a n c, .int .i64 l] w fun e w' => w = w' ∧ e = .returned (.bool true) := by
  go_enter Try.func12, Try.ntmps12
  go_wp2
  go_ret
  exact ⟨rfl, rfl⟩

set_option maxHeartbeats 400000 in
theorem zz12_no (a : Option Addr) (n c : Nat) (l : Int) (w : World) (hn : 1048576 < n) :
    Calls Try.prog 12 #[.slice a n c, .int .i64 l] w fun e w' => w = w' ∧ e = .returned (.bool false) := by
  go_enter Try.func12, Try.ntmps12
  go_wp2
  go_ret
  exact ⟨rfl, rfl⟩

set_option maxHeartbeats 1600000 in
theorem law1_any (ao : Option Addr) (n c : Nat) (p : Int) (f : Nat → Int) (w : World) (hf : ∀ i, 0 ≤ f i ∧ f i ≤ 255)
    (hc : n = 0 ∨ ∃ x, ao = some x ∧ x.block < w.heap.size ∧ ∀ i, i < n → w.cell? (x.add i) = some (.int .u8 (f i))) :
    Calls Try.prog 3 #[.slice ao n c, .int .i64 p] w fun e w' => e = .returned (.bool true) ∧ Below w.heap.size w w' := by
  by_cases hn : n ≤ 1048576
  · by_cases hp0 : p < 0
    · go_enter Try.func3, Try.ntmps3
      go_wp2_with fail
      refine (zz12_yes _ _ _ _ w hn).mono ?_
      rintro e w' ⟨rfl, rfl⟩
      go_wp2
      go_ret
      exact ⟨rfl, Below.refl _ _⟩
    · by_cases hp1 : (n : Int) ≤ p
      · go_enter Try.func3, Try.ntmps3
        go_wp2_with fail
        refine (zz12_yes _ _ _ _ w hn).mono ?_
        rintro e w' ⟨rfl, rfl⟩
        go_wp2
        go_ret
        exact ⟨rfl, Below.refl _ _⟩
      · obtain ⟨q, rfl⟩ := Int.eq_ofNat_of_zero_le (show 0 ≤ p by omega)
        have hq : q < n := by omega
        rcases hc with h0 | ⟨x, rfl, hb, hc⟩
        · omega
        have HF : Hid (∀ i, 0 ≤ f i ∧ f i ≤ 255) := hf
        clear hf
        have hcell := hc q hq
        by_cases h34 : f q = 34
        · have bq : (f q != 34) = false := by simp [h34]
          have HQ : Hid (f q = 34) := h34
          clear h34
          go_enter Try.func3, Try.ntmps3
          go_wp2_with fail
          refine (zz12_yes _ _ _ _ w hn).mono ?_
          rintro e w' ⟨rfl, rfl⟩
          go_wp2_with fail
          refine (clone_any x n c f w hn (Or.inr hb) hc).mono ?_
          rintro e w1 ⟨rfl, hrow, hbel1, hsz⟩
          go_wp2_with fail
          refine (strEnd_any w.heap.size 0 n n q f w1 hn (Nat.le_refl _) hq HF.out HQ.out hrow).mono ?_
          rintro e w' ⟨rfl, r, rfl, hr⟩
          go_wp2_with fail
          refine (fwd_any w.heap.size 0 n n q f w1 hn hq hrow).mono ?_
          rintro e w' ⟨rfl, r', rfl, hr'⟩
          obtain rfl := strRes_unique hr hr'
          go_wp2
          go_ret
          exact ⟨ret_bool (by simp), hbel1⟩
        · have bq : (f q != 34) = true := by simp [h34]
          clear h34
          go_enter Try.func3, Try.ntmps3
          go_wp2_with fail
          refine (zz12_yes _ _ _ _ w hn).mono ?_
          rintro e w' ⟨rfl, rfl⟩
          go_wp2
          go_ret
          exact ⟨rfl, Below.refl _ _⟩
  · go_enter Try.func3, Try.ntmps3
    go_wp2_with fail
    refine (zz12_no _ _ _ _ w (by omega)).mono ?_
    rintro e w' ⟨rfl, rfl⟩
    go_wp2
    go_ret
    exact ⟨rfl, Below.refl _ _⟩

/-- From what the frame tells of a slice to what the walks ask. -/
theorem row_of {w : World} {x : Addr} {len cap : Nat} {z : List Int} (hl : len ≤ cap) (hz : z.length = cap) (hcell : ∀ i, i < z.length → w.cell? (x.add i) = some (.int .u8 (z.getD i 0))) :
    len = 0 ∨ ∃ y, some x = some y ∧ y.block < w.heap.size ∧ ∀ i, i < len → w.cell? (y.add i) = some (.int .u8 (z.getD i 0)) := by
  by_cases h0 : len = 0
  · exact Or.inl h0
  · refine Or.inr ⟨x, rfl, ?_, fun i hi => hcell i (by omega)⟩
    have := hcell 0 (by omega)
    simpa [Addr.add] using block_lt this

end Go.Proofs.Qxb6000374a
