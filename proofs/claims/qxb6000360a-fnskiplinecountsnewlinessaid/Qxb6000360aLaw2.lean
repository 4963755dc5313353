import Derived.Test.Qxb6000360aLine
namespace Go.Proofs.Qxb6000360a
open Go.RowKit

set_option maxHeartbeats 400000 in
theorem zz19_yes (a : Option Addr) (n c : Nat) (l : Int) (w : World) (hn : n ≤ 1048576) :
    Calls Try.prog 19 #[.slice a n c, .int .i64 l] w fun e w' => w = w' ∧ e = .returned (.bool true) := by
  go_enter Try.func19, Try.ntmps19
  go_wp2
  go_ret
  exact ⟨rfl, rfl⟩

set_option maxHeartbeats 400000 in
theorem zz19_no (a : Option Addr) (n c : Nat) (l : Int) (w : World) (hn : 1048576 < n) :
    Calls Try.prog 19 #[.slice a n c, .int .i64 l] w fun e w' => w = w' ∧ e = .returned (.bool false) := by
  go_enter Try.func19, Try.ntmps19
  go_wp2
  go_ret
  exact ⟨rfl, rfl⟩

/-- The line count behind m newlines. -/
def lnAt (l : Int) (m : Nat) : Int := wrap64 (l + m)

theorem lnAt_zero {l : Int} (h : -9223372036854775808 ≤ l ∧ l ≤ 9223372036854775807) : l = lnAt l 0 := by
  unfold lnAt wrap64
  omega

theorem lnAt_step (l : Int) (m t : Nat) (ht : t ≤ 1) : lineAt (lnAt l m) t = lnAt l (m + t) := by
  unfold lineAt lnAt wrap64
  split <;> omega

theorem lnAt_eq (l : Int) (m : Nat) : lnAt l m = wrap64 (l + m) := rfl

set_option maxHeartbeats 1600000 in
theorem law2_some (x : Addr) (n c : Nat) (l : Int) (f : Nat → Int) (w : World) (hl : -9223372036854775808 ≤ l ∧ l ≤ 9223372036854775807) (hb : n = 0 ∨ x.block < w.heap.size) (hf : ∀ i, 0 ≤ f i ∧ f i ≤ 255) (hc : ∀ i, i < n → w.cell? (x.add i) = some (.int .u8 (f i))) :
    Calls Try.prog 8 #[.slice (some x) n c, .int .i64 l] w fun e w' => e = .returned (.bool true) ∧ Below w.heap.size w w' := by
  have HZ : Hid (l = lnAt l 0) := lnAt_zero hl
  clear hl
  by_cases hn : n ≤ 1048576
  · have HF : Hid (∀ i, 0 ≤ f i ∧ f i ≤ 255) := hf
    clear hf
    go_enter Try.func8, Try.ntmps8
    go_wp2_with fail
    refine (zz19_yes _ _ _ _ w hn).mono ?_
    rintro e w' ⟨rfl, rfl⟩
    go_wp2_with fail
    refine (clone_any x n c f w hn hb hc).mono ?_
    rintro e w1 ⟨rfl, hrow, hbel1, hsz⟩
    clear hc
    go_wp2
    go_loop [5, 6] (fun cn i => ∃ k m : Nat, k ≤ n ∧ m ≤ k ∧ i = .int .i64 k ∧ cn = .int .i64 m ∧ Hid (m = Pl.cnt f k)) (fun _ i => n - (intOf i).toNat)
    case atStart => exact ⟨0, 0, Nat.zero_le _, Nat.le_refl _, rfl, rfl, rfl⟩
    case round =>
      obtain ⟨k, m, hk, hm, rfl, rfl, HM⟩ := hrel
      by_cases hlt : k < n
      · have hcell : w1.cell? ⟨w.heap.size, k, none⟩ = some (.int .u8 (f k)) := by
          have := hrow k hlt
          rwa [Nat.zero_add] at this
        by_cases h10 : f k = 10
        · have b1 := btrue h10
          have HM' : Hid (m + 1 = Pl.cnt f (k + 1)) := by rw [Hid, Pl.cnt_yes h10, ← HM.out]
          clear h10
          go_wp2
          go_round
          case rel => exact ⟨k + 1, m + 1, by omega, by omega, by go_num, by go_num, HM'⟩
          case measure => simp [intOf]; omega
        · have b1 := bfalse h10
          have HM' : Hid (m = Pl.cnt f (k + 1)) := by rw [Hid, Pl.cnt_no h10, ← HM.out]
          clear h10
          go_wp2
          go_round
          case rel => exact ⟨k + 1, m, by omega, by omega, by go_num, by go_num, HM'⟩
          case measure => simp [intOf]; omega
      · have hkn : k = n := by omega
        subst hkn
        go_wp2
        go_loopg [7, 8] k (fun j ps ln wr => ∃ (i : Nat) (y : Int), i + j = k ∧ ps = .int .i64 i ∧ ln = .int .i64 y ∧ Hid (y = lnAt l (Pl.cnt f i)) ∧ Row wr w.heap.size 0 k f ∧ w.heap.size < wr.heap.size ∧ Below w.heap.size w wr)
        case atStart => exact ⟨0, l, by omega, rfl, rfl, HZ, hrow, hsz, hbel1⟩
        case round =>
          obtain ⟨i, y, hij, rfl, rfl, HY, hrow', hsz', hbel'⟩ := hrel
          have HIJ : Hid (i + gk = k) := hij
          by_cases hik : i < k
          · clear hij
            go_wp2_with fail
            refine (zzLine_any w.heap.size 0 k k i y f wr hn (Nat.le_refl _) (by omega) HF.out hsz' hrow').mono ?_
            rintro e w2 ⟨np, t, rfl, hL, hbel2⟩
            obtain ⟨v1, v2, v3, v4⟩ := Pl.line_bounds (by omega) hL
            have hinp : i < np := v3 hik
            have HY' : Hid (lineAt y t = lnAt l (Pl.cnt f np)) := by rw [Hid, HY.out, lnAt_step _ _ _ v4, ← Pl.cnt_line (by omega) hL]
            have hrow2 := hrow'.below hbel2 hsz'
            have hsz2 : w.heap.size < w2.heap.size := Nat.lt_of_lt_of_le hsz' hbel2.size
            have hB : Below w.heap.size w w2 := hbel'.trans (hbel2.mono hbel'.size)
            clear v3 v4 hL HY hrow' hbel2 hbel' hrow hbel1
            generalize lineAt y t = y2 at HY'
            go_wp2
            go_roundg (k - np)
            case measure => have := HIJ.out; omega
            case rel => exact ⟨np, y2, by omega, rfl, rfl, HY', hrow2, hsz2, hB⟩
          · have e : i = k := by omega
            subst e
            have bq : (y == wrap64 (l + (m : Int))) = true := by rw [HY.out, ← HM.out]; exact btrue (lnAt_eq l m)
            clear hij HIJ
            go_wp2
            go_ret
            exact ⟨rfl, hbel'⟩
  · go_enter Try.func8, Try.ntmps8
    go_wp2_with fail
    refine (zz19_no _ _ _ _ w (by omega)).mono ?_
    rintro e w' ⟨rfl, rfl⟩
    go_wp2
    go_ret
    exact ⟨rfl, Below.refl _ _⟩

set_option maxHeartbeats 1600000 in
theorem law2_nil (l : Int) (w : World) (hl : -9223372036854775808 ≤ l ∧ l ≤ 9223372036854775807) :
    Calls Try.prog 8 #[.slice none 0 0, .int .i64 l] w fun e w' => e = .returned (.bool true) ∧ Below w.heap.size w w' := by
  go_enter Try.func8, Try.ntmps8
  go_wp2_with fail
  refine (zz19_yes _ _ _ _ w (by omega)).mono ?_
  rintro e w' ⟨rfl, rfl⟩
  go_wp2_with fail
  refine (clone_nil w).mono ?_
  rintro e w' ⟨rfl, rfl⟩
  go_wp2
  refine wp_loop_rounds 1 ?_
  rw [rounds_succ]
  go_wp2
  refine wp_loop_rounds 1 ?_
  rw [rounds_succ]
  go_wp2
  go_ret
  exact ⟨rfl, Below.refl _ _⟩

end Go.Proofs.Qxb6000360a
