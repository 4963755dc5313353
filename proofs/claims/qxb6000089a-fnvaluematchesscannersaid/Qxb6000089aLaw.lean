import Derived.Test.Qxb6000089aValue
namespace Go.Proofs.Qxb6000089a
open Go.RowKit

theorem brOr_bounds {f : Nat → Int} {n s r : Nat} (h : Pl.BrOr f n s r) (hs : s < n) : s < r ∧ r ≤ n := by
  rcases h with ⟨h1, h2, _, _⟩ | ⟨_, rfl⟩
  · exact ⟨h1, h2⟩
  · exact ⟨hs, Nat.le_refl _⟩

theorem valAt_bounds {f : Nat → Int} {n p s r : Nat} (h : ValAt f n p s r) : s ≤ r ∧ r ≤ n ∧ s ≤ n := by
  obtain ⟨a1, a2, a3⟩ := h
  have hs := a1.2.1
  by_cases hlt : s < n
  · have := a2 hlt
    unfold Pl.ValEnd at this
    split at this
    · have := Pl.endOr_bounds this hlt; omega
    · split at this
      · have := brOr_bounds this hlt; omega
      · have := this.1; have := ‹Pl.First Pl.isDel f n s r›.2.1; omega
  · have := a3 (by omega); omega

set_option maxHeartbeats 400000 in
theorem zz_yes (a : Option Addr) (n c : Nat) (p : Int) (st : Bool) (w : World) (hn : n ≤ 1048576) :
    Calls Try.prog 20 #[.slice a n c, .int .i64 p, .bool st] w fun e w' => w = w' ∧ e = .returned (.bool true) := by
  go_enter Try.func20, Try.ntmps20
  go_wp2
  go_ret
  exact ⟨rfl, rfl⟩

set_option maxHeartbeats 400000 in
theorem zz_no (a : Option Addr) (n c : Nat) (p : Int) (st : Bool) (w : World) (hn : 1048576 < n) :
    Calls Try.prog 20 #[.slice a n c, .int .i64 p, .bool st] w fun e w' => w = w' ∧ e = .returned (.bool false) := by
  go_enter Try.func20, Try.ntmps20
  go_wp2
  go_ret
  exact ⟨rfl, rfl⟩

set_option maxHeartbeats 400000 in
theorem new_any (v : Option Addr) (n c : Nat) (p : Int) (st : Bool) (w : World) :
    Calls Try.prog 15 #[.slice v n c, .int .i64 p, .bool st] w fun e w' => e = .returned (.pointer (some ⟨w.heap.size, 0, none⟩)) ∧ w' = w.alloc (.cells #[.slice v n c, .int .i64 p, .bool st] 38) := by
  go_enter Try.func15, Try.ntmps15
  go_wp2
  go_ret
  exact ⟨rfl, rfl⟩

set_option maxHeartbeats 400000 in
theorem pos_any (g : Nat) (p : Int) (w : World) (h : w.cell? ⟨g, 1, none⟩ = some (.int .i64 p)) :
    Calls Try.prog 17 #[.pointer (some ⟨g, 0, none⟩)] w fun e w' => w = w' ∧ e = .returned (.int .i64 p) := by
  go_enter Try.func17, Try.ntmps17
  go_wp2
  go_ret
  exact ⟨rfl, rfl⟩

theorem Wk.made (w : World) (b o n c p : Nat) (st : Bool) (hb : b < w.heap.size) : Wk (w.alloc (.cells #[.slice (some ⟨b, o, none⟩) n c, .int .i64 p, .bool st] 38)) w.heap.size b o n c p :=
  ⟨by simp, by simp, by simp, hb, by simp⟩

set_option maxHeartbeats 400000 in
theorem clone_nil (w : World) : Calls Try.prog 10 #[.slice none 0 0] w fun e w' => w = w' ∧ e = .returned (.slice none 0 0) := by
  have q22 : ∀ (w : World) (a : Option Addr) (n c n' c' : Nat), (binOp .eql 22 (.slice a n c) (.slice none n' c')).run Try.prog w = .ok (.bool a.isNone) w := fun w a n c n' c' => Lib.run_eql_slice_nil w _ _ a n c n' c' Try.underlying22
  go_enter Try.func10, Try.ntmps10
  go_wp2
  go_ret
  exact ⟨rfl, rfl⟩

set_option maxHeartbeats 400000 in
theorem model_nil (w : World) : Calls Try.prog 21 #[.slice none 0 0, .int .i64 0] w fun e w' => w = w' ∧ e = .returned (.tuple #[.int .i64 0, .int .i64 0]) := by
  go_enter Try.func21, Try.ntmps21
  go_wp2
  refine wp_loop_rounds 1 ?_
  rw [rounds_succ]
  go_wp2
  go_ret2
  exact ⟨rfl, rfl⟩

set_option maxHeartbeats 400000 in
theorem next_nil (g : Nat) (w : World) (hd : w.cell? ⟨g, 0, none⟩ = some (.slice none 0 0)) (hp : w.cell? ⟨g, 1, none⟩ = some (.int .i64 0)) :
    Calls Try.prog 16 #[.pointer (some ⟨g, 0, none⟩)] w fun e w' => e = .returned (.int .u8 0) ∧ ∃ m, w' = w.drewN m := by
  go_enter Try.func16, Try.ntmps16
  go_wp2
  refine wp_loop_rounds 1 ?_
  rw [rounds_succ]
  go_wp2
  go_quiet (fail)
  go_wp2
  go_ret
  exact ⟨rfl, _, rfl⟩

set_option maxRecDepth 100000 in
set_option maxHeartbeats 800000 in
theorem value_nil (g : Nat) (w : World) (hd : w.cell? ⟨g, 0, none⟩ = some (.slice none 0 0)) (hp : w.cell? ⟨g, 1, none⟩ = some (.int .i64 0)) :
    Calls Try.prog 22 #[.pointer (some ⟨g, 0, none⟩)] w fun e w' => e = .returned (.slice none 0 0) ∧ ∃ m, w' = w.drewN m := by
  have hdd : decide ((0 : Int) < (0 : Int)) = false := by simp
  go_enter Try.func22, Try.ntmps22
  go_wp2_with fail
  refine (next_nil g w hd hp).mono ?_
  rintro e w1 ⟨rfl, m, rfl⟩
  go_wp2
  refine wp_loop_rounds 1 ?_
  rw [rounds_succ]
  go_wp2
  go_quiet (fail)
  go_wp2
  go_quiet (fail)
  go_wp2
  go_ret
  exact ⟨rfl, _, by rw [World.drewN_drewN, World.drewN_drewN]⟩

theorem block_lt {w : World} {a : Addr} {v : Value} (h : w.cell? a = some v) : a.block < w.heap.size := by
  rcases Nat.lt_or_ge a.block w.heap.size with hh | hh
  · exact hh
  · simp [World.cell?, Array.getElem?_eq_none hh] at h

theorem below3 {w w1 w3 : World} {v : Obj} (h1 : Below w.heap.size w w1) (h3 : Below w1.heap.size (w1.alloc v) w3) : Below w.heap.size w w3 :=
  (h1.alloc h1.size v).trans (h3.mono h1.size)

set_option maxHeartbeats 1600000 in
theorem law_some (x : Addr) (n c : Nat) (p : Int) (st : Bool) (f : Nat → Int) (w : World) (hb : n = 0 ∨ x.block < w.heap.size) (hf : ∀ i, 0 ≤ f i ∧ f i ≤ 255) (hc : ∀ i, i < n → w.cell? (x.add i) = some (.int .u8 (f i))) :
    Calls Try.prog 7 #[.slice (some x) n c, .int .i64 p, .bool st] w fun e w' => e = .returned (.bool true) ∧ Below w.heap.size w w' := by
  by_cases hn : n ≤ 1048576
  · by_cases hp0 : p < 0
    · go_enter Try.func7, Try.ntmps7
      go_wp2_with fail
      refine (zz_yes _ _ _ _ _ w hn).mono ?_
      rintro e w' ⟨rfl, rfl⟩
      go_wp2
      go_ret
      exact ⟨rfl, Below.refl _ _⟩
    · by_cases hp1 : (n : Int) < p
      · go_enter Try.func7, Try.ntmps7
        go_wp2_with fail
        refine (zz_yes _ _ _ _ _ w hn).mono ?_
        rintro e w' ⟨rfl, rfl⟩
        go_wp2
        go_ret
        exact ⟨rfl, Below.refl _ _⟩
      · obtain ⟨q, rfl⟩ := Int.eq_ofNat_of_zero_le (show 0 ≤ p by omega)
        have hq : q ≤ n := by omega
        have HF : Hid (∀ i, 0 ≤ f i ∧ f i ≤ 255) := hf
        clear hf
        go_enter Try.func7, Try.ntmps7
        go_wp2_with fail
        refine (zz_yes _ _ _ _ _ w hn).mono ?_
        rintro e w' ⟨rfl, rfl⟩
        go_wp2_with fail
        refine (clone_any x n c f w hn hb hc).mono ?_
        rintro e w1 ⟨rfl, hrow, hbel1, hsz⟩
        go_wp2_with fail
        refine (model_any w.heap.size 0 n n q f w1 hn hq hrow).mono ?_
        rintro e w' ⟨rfl, s, r, rfl, hv⟩
        go_wp2_with fail
        refine (new_any _ _ _ _ _ w1).mono ?_
        rintro e w2 ⟨rfl, rfl⟩
        have hwk := Wk.made w1 w.heap.size 0 n n q st hsz
        have hbel2 : Below w1.heap.size w1 (w1.alloc (.cells #[.slice (some ⟨w.heap.size, 0, none⟩) n n, .int .i64 q, .bool st] 38)) := (Below.refl _ _).alloc (Nat.le_refl _) _
        have hrow2 := hrow.below hbel2 hsz
        go_wp2_with fail
        refine (value_any w1.heap.size w.heap.size 0 n n q f _ hn (Nat.le_refl _) hq HF.out hwk hrow2).mono ?_
        rintro e w3 ⟨s', r', a, rfl, ha, hv', hwk3, hbel3⟩
        obtain ⟨hs', hr'⟩ := valAt_unique hv hv'
        subst hs'
        subst hr'
        have hrow3 := hrow2.below hbel3 hsz
        have hB := below3 hbel1 hbel3
        obtain ⟨v1, v2, v3⟩ := valAt_bounds hv
        have hp3 := hwk3.pos
        clear hwk hwk3 hrow hrow2 hbel1 hbel2 hbel3 hv hv'
        go_wp2_with fail
        refine (pos_any w1.heap.size r w3 hp3).mono ?_
        rintro e w' ⟨rfl, rfl⟩
        have e1 : (((r - s : Nat) : Int) != (r : Int) - (s : Int)) = false := by simp; omega
        by_cases hsr : s < r
        · obtain rfl := ha hsr
          clear ha
          go_wp2
          go_loopg [12] (r - s) (fun j i wr => ∃ t : Nat, t + j = r - s ∧ i = .int .i64 t ∧ Row wr w.heap.size 0 n f ∧ Below w.heap.size w wr)
          case atStart => exact ⟨0, by omega, rfl, hrow3, hB⟩
          case round =>
            clear hrow3 hB hp3
            obtain ⟨t, htj, rfl, hrow, hB⟩ := hrel
            have HTJ : Hid (t + gk = r - s) := htj
            by_cases hlt : t < r - s
            · have hgk : 0 < gk := by omega
              have hcell : wr.cell? ⟨w.heap.size, s + t, none⟩ = some (.int .u8 (f (s + t))) := by
                have := hrow (s + t) (by omega)
                rwa [Nat.zero_add] at this
              have hst : s + t < n := by omega
              clear htj
              go_wp2
              go_quiet (fail)
              go_wp2
              go_roundg (gk - 1)
              case measure => omega
              case rel => exact ⟨t + 1, by have := HTJ.out; omega, by go_num, hrow, below_drewN hB _⟩
            · clear htj
              go_wp2
              go_ret
              exact ⟨rfl, hB⟩
        · have hrs : r = s := by omega
          subst hrs
          clear ha
          go_wp2
          refine wp_loop_rounds 1 ?_
          rw [rounds_succ]
          go_wp2
          go_ret
          exact ⟨rfl, hB⟩
  · go_enter Try.func7, Try.ntmps7
    go_wp2_with fail
    refine (zz_no _ _ _ _ _ w (by omega)).mono ?_
    rintro e w' ⟨rfl, rfl⟩
    go_wp2
    go_ret
    exact ⟨rfl, Below.refl _ _⟩

set_option maxHeartbeats 1600000 in
theorem law_nil (p : Int) (st : Bool) (w : World) :
    Calls Try.prog 7 #[.slice none 0 0, .int .i64 p, .bool st] w fun e w' => e = .returned (.bool true) ∧ Below w.heap.size w w' := by
  by_cases hp0 : p < 0
  · go_enter Try.func7, Try.ntmps7
    go_wp2_with fail
    refine (zz_yes _ _ _ _ _ w (by omega)).mono ?_
    rintro e w' ⟨rfl, rfl⟩
    go_wp2
    go_ret
    exact ⟨rfl, Below.refl _ _⟩
  · by_cases hp1 : 0 < p
    · go_enter Try.func7, Try.ntmps7
      go_wp2_with fail
      refine (zz_yes _ _ _ _ _ w (by omega)).mono ?_
      rintro e w' ⟨rfl, rfl⟩
      go_wp2
      go_ret
      exact ⟨rfl, Below.refl _ _⟩
    · obtain rfl : p = 0 := by omega
      go_enter Try.func7, Try.ntmps7
      go_wp2_with fail
      refine (zz_yes _ _ _ _ _ w (by omega)).mono ?_
      rintro e w' ⟨rfl, rfl⟩
      go_wp2_with fail
      refine (clone_nil w).mono ?_
      rintro e w' ⟨rfl, rfl⟩
      go_wp2_with fail
      refine (model_nil w).mono ?_
      rintro e w' ⟨rfl, rfl⟩
      go_wp2_with fail
      refine (new_any _ _ _ _ _ w).mono ?_
      rintro e w2 ⟨rfl, rfl⟩
      have hbel2 : Below w.heap.size w (w.alloc (.cells #[.slice none 0 0, .int .i64 0, .bool st] 38)) := (Below.refl _ _).alloc (Nat.le_refl _) _
      go_wp2_with fail
      refine (value_nil w.heap.size _ (by simp) (by simp)).mono ?_
      rintro e w3 ⟨rfl, m, rfl⟩
      go_wp2_with fail
      refine (pos_any w.heap.size 0 _ (by simp)).mono ?_
      rintro e w' ⟨rfl, rfl⟩
      go_wp2
      refine wp_loop_rounds 1 ?_
      rw [rounds_succ]
      go_wp2
      go_ret
      exact ⟨rfl, below_drewN hbel2 _⟩

end Go.Proofs.Qxb6000089a
