import Derived.Test.Qxb6000360aLine
namespace Go.Proofs.Qxb6000360a
open Go.RowKit

set_option maxHeartbeats 400000 in
theorem zz17_yes (a : Option Addr) (n c : Nat) (p l : Int) (w : World) (hn : n ≤ 1048576) :
    Calls Try.prog 17 #[.slice a n c, .int .i64 p, .int .i64 l] w fun e w' => w = w' ∧ e = .returned (.bool true) := by
  go_enter Try.func17, Try.ntmps17
  go_wp2
  go_ret
  exact ⟨rfl, rfl⟩

set_option maxHeartbeats 400000 in
theorem zz17_no (a : Option Addr) (n c : Nat) (p l : Int) (w : World) (hn : 1048576 < n) :
    Calls Try.prog 17 #[.slice a n c, .int .i64 p, .int .i64 l] w fun e w' => w = w' ∧ e = .returned (.bool false) := by
  go_enter Try.func17, Try.ntmps17
  go_wp2
  go_ret
  exact ⟨rfl, rfl⟩

theorem wrap_ne (l : Int) : wrap64 (l + 1) ≠ l := by
  unfold wrap64
  omega

theorem lineAt_zero (l : Int) : lineAt l 0 = l := rfl
theorem lineAt_one (l : Int) : lineAt l 1 = wrap64 (l + 1) := rfl

set_option maxHeartbeats 1600000 in
theorem law1_some (x : Addr) (n c : Nat) (p l : Int) (f : Nat → Int) (w : World) (hb : n = 0 ∨ x.block < w.heap.size) (hf : ∀ i, 0 ≤ f i ∧ f i ≤ 255) (hc : ∀ i, i < n → w.cell? (x.add i) = some (.int .u8 (f i))) :
    Calls Try.prog 7 #[.slice (some x) n c, .int .i64 p, .int .i64 l] w fun e w' => e = .returned (.bool true) ∧ Below w.heap.size w w' := by
  by_cases hn : n ≤ 1048576
  · by_cases hp0 : p < 0
    · go_enter Try.func7, Try.ntmps7
      go_wp2_with fail
      refine (zz17_yes _ _ _ _ _ w hn).mono ?_
      rintro e w' ⟨rfl, rfl⟩
      go_wp2
      go_ret
      exact ⟨rfl, Below.refl _ _⟩
    · by_cases hp1 : (n : Int) < p
      · go_enter Try.func7, Try.ntmps7
        go_wp2_with fail
        refine (zz17_yes _ _ _ _ _ w hn).mono ?_
        rintro e w' ⟨rfl, rfl⟩
        go_wp2
        go_ret
        exact ⟨rfl, Below.refl _ _⟩
      · obtain ⟨q, rfl⟩ := Int.eq_ofNat_of_zero_le (show 0 ≤ p by omega)
        have hq : q ≤ n := by omega
        have HF : Hid (∀ i, 0 ≤ f i ∧ f i ≤ 255) := hf
        clear hf
        go_enter Try.func7, Try.ntmps7
        go_wp2_with fail
        refine (zz17_yes _ _ _ _ _ w hn).mono ?_
        rintro e w' ⟨rfl, rfl⟩
        go_wp2_with fail
        refine (clone_any x n c f w hn hb hc).mono ?_
        rintro e w1 ⟨rfl, hrow, hbel1, hsz⟩
        go_wp2_with fail
        refine (zzLine_any w.heap.size 0 n n q l f w1 hn (Nat.le_refl _) hq HF.out hsz hrow).mono ?_
        rintro e w2 ⟨np, t, rfl, hL, hbel2⟩
        have hrow2 := hrow.below hbel2 hsz
        have hB : Below w.heap.size w w2 := hbel1.trans (hbel2.mono hbel1.size)
        obtain ⟨v1, v2, v3, v4⟩ := Pl.line_bounds hq hL
        clear hrow hbel1 hbel2 hc v3
        rcases hL with ⟨h1, h2, h3⟩ | ⟨h1, h2, h3, h4, h5⟩
        · subst h1
          subst h2
          rw [lineAt_zero]
          have HP : Hid (Pl.Plain f q np) := h3
          clear h3
          go_wp2
          go_loop [9] (fun i => ∃ k : Nat, q ≤ k ∧ k ≤ np ∧ i = .int .i64 k) (fun i => np - (intOf i).toNat)
          case atStart => exact ⟨q, Nat.le_refl _, hq, rfl⟩
          case round =>
            obtain ⟨k, hk1, hk2, rfl⟩ := hrel
            by_cases hlt : k < np
            · have hcell : w2.cell? ⟨w.heap.size, k, none⟩ = some (.int .u8 (f k)) := by
                have := hrow2 k hlt
                rwa [Nat.zero_add] at this
              have b1 := bfalse (HP.out k hk1 hlt)
              go_wp2
              go_round
              case rel => exact ⟨k + 1, by omega, by omega, by go_num⟩
              case measure => simp [intOf]; omega
            · go_wp2
              go_ret
              exact ⟨rfl, hB⟩
        · subst h1
          rw [lineAt_one]
          have bl := bfalse (wrap_ne l)
          obtain ⟨m, rfl⟩ : ∃ m, np = m + 1 := ⟨np - 1, by omega⟩
          simp only [Nat.add_sub_cancel] at h4 h5
          have hcell : w2.cell? ⟨w.heap.size, m, none⟩ = some (.int .u8 (f m)) := by
            have := hrow2 m (by omega)
            rwa [Nat.zero_add] at this
          have b4 : (f m != 10) = false := by simp [h4]
          have HP : Hid (Pl.Plain f q m) := h5
          clear h4 h5
          go_wp2
          go_loop [10] (fun i => ∃ k : Nat, q ≤ k ∧ k ≤ m ∧ i = .int .i64 k) (fun i => m - (intOf i).toNat)
          case atStart => exact ⟨q, Nat.le_refl _, by omega, rfl⟩
          case round =>
            obtain ⟨k, hk1, hk2, rfl⟩ := hrel
            clear hcell b4
            by_cases hlt : k < m
            · have hcell : w2.cell? ⟨w.heap.size, k, none⟩ = some (.int .u8 (f k)) := by
                have := hrow2 k (by omega)
                rwa [Nat.zero_add] at this
              have b1 := bfalse (HP.out k hk1 hlt)
              go_wp2
              go_round
              case rel => exact ⟨k + 1, by omega, by omega, by go_num⟩
              case measure => simp [intOf]; omega
            · go_wp2
              go_ret
              exact ⟨rfl, hB⟩
  · go_enter Try.func7, Try.ntmps7
    go_wp2_with fail
    refine (zz17_no _ _ _ _ _ w (by omega)).mono ?_
    rintro e w' ⟨rfl, rfl⟩
    go_wp2
    go_ret
    exact ⟨rfl, Below.refl _ _⟩

set_option maxHeartbeats 1600000 in
theorem law1_nil (p l : Int) (w : World) :
    Calls Try.prog 7 #[.slice none 0 0, .int .i64 p, .int .i64 l] w fun e w' => e = .returned (.bool true) ∧ Below w.heap.size w w' := by
  by_cases hp0 : p < 0
  · go_enter Try.func7, Try.ntmps7
    go_wp2_with fail
    refine (zz17_yes _ _ _ _ _ w (by omega)).mono ?_
    rintro e w' ⟨rfl, rfl⟩
    go_wp2
    go_ret
    exact ⟨rfl, Below.refl _ _⟩
  · by_cases hp1 : 0 < p
    · go_enter Try.func7, Try.ntmps7
      go_wp2_with fail
      refine (zz17_yes _ _ _ _ _ w (by omega)).mono ?_
      rintro e w' ⟨rfl, rfl⟩
      go_wp2
      go_ret
      exact ⟨rfl, Below.refl _ _⟩
    · obtain rfl : p = 0 := by omega
      go_enter Try.func7, Try.ntmps7
      go_wp2_with fail
      refine (zz17_yes _ _ _ _ _ w (by omega)).mono ?_
      rintro e w' ⟨rfl, rfl⟩
      go_wp2_with fail
      refine (clone_nil w).mono ?_
      rintro e w' ⟨rfl, rfl⟩
      go_wp2_with fail
      refine (zzLine_nil l w).mono ?_
      rintro e w2 ⟨rfl, hB⟩
      go_wp2
      refine wp_loop_rounds 1 ?_
      rw [rounds_succ]
      go_wp2
      go_ret
      exact ⟨rfl, hB⟩

end Go.Proofs.Qxb6000360a
