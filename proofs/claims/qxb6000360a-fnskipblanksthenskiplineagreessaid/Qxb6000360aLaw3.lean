import Derived.Test.Qxb6000360aBlank
namespace Go.Proofs.Qxb6000360a
open Go.RowKit
set_option linter.unusedVariables false

set_option maxHeartbeats 400000 in
theorem zz20_yes (a : Option Addr) (n c : Nat) (p l : Int) (w : World) (hn : n ≤ 1048576) :
    Calls Try.prog 20 #[.slice a n c, .int .i64 p, .int .i64 l] w fun e w' => w = w' ∧ e = .returned (.bool true) := by
  go_enter Try.func20, Try.ntmps20
  go_wp2
  go_ret
  exact ⟨rfl, rfl⟩

set_option maxHeartbeats 400000 in
theorem zz20_no (a : Option Addr) (n c : Nat) (p l : Int) (w : World) (hn : 1048576 < n) :
    Calls Try.prog 20 #[.slice a n c, .int .i64 p, .int .i64 l] w fun e w' => w = w' ∧ e = .returned (.bool false) := by
  go_enter Try.func20, Try.ntmps20
  go_wp2
  go_ret
  exact ⟨rfl, rfl⟩

set_option maxHeartbeats 1600000 in
theorem law3_some (x : Addr) (n c : Nat) (p l : Int) (f : Nat → Int) (w : World) (hb : n = 0 ∨ x.block < w.heap.size) (hf : ∀ i, 0 ≤ f i ∧ f i ≤ 255) (hc : ∀ i, i < n → w.cell? (x.add i) = some (.int .u8 (f i))) :
    Calls Try.prog 9 #[.slice (some x) n c, .int .i64 p, .int .i64 l] w fun e w' => e = .returned (.bool true) ∧ Below w.heap.size w w' := by
  by_cases hn : n ≤ 1048576
  · by_cases hp0 : p < 0
    · go_enter Try.func9, Try.ntmps9
      go_wp2_with fail
      refine (zz20_yes _ _ _ _ _ w hn).mono ?_
      rintro e w' ⟨rfl, rfl⟩
      go_wp2
      go_ret
      exact ⟨rfl, Below.refl _ _⟩
    · by_cases hp1 : (n : Int) < p
      · go_enter Try.func9, Try.ntmps9
        go_wp2_with fail
        refine (zz20_yes _ _ _ _ _ w hn).mono ?_
        rintro e w' ⟨rfl, rfl⟩
        go_wp2
        go_ret
        exact ⟨rfl, Below.refl _ _⟩
      · obtain ⟨q, rfl⟩ := Int.eq_ofNat_of_zero_le (show 0 ≤ p by omega)
        have hq : q ≤ n := by omega
        have HF : Hid (∀ i, 0 ≤ f i ∧ f i ≤ 255) := hf
        clear hf
        go_enter Try.func9, Try.ntmps9
        go_wp2_with fail
        refine (zz20_yes _ _ _ _ _ w hn).mono ?_
        rintro e w' ⟨rfl, rfl⟩
        go_wp2_with fail
        refine (clone_any x n c f w hn hb hc).mono ?_
        rintro e w1 ⟨rfl, hrow, hbel1, hsz⟩
        go_wp2_with fail
        refine (zzBlanks_any w.heap.size 0 n n q l f w1 hn hq hsz hrow).mono ?_
        rintro e w2 ⟨np, v, rfl, hB, hbel2⟩
        have hrow2 := hrow.below hbel2 hsz
        have hsz2 : w.heap.size < w2.heap.size := Nat.lt_of_lt_of_le hsz hbel2.size
        have hb2 : Below w.heap.size w w2 := hbel1.trans (hbel2.mono hbel1.size)
        have hnp : np ≤ n := hB.2.1
        clear hrow hbel1 hbel2 hsz hc
        go_wp2_with fail
        refine (zzLine_any w.heap.size 0 n n np l f w2 hn (Nat.le_refl _) hnp HF.out hsz2 hrow2).mono ?_
        rintro e w3 ⟨pa, ta, rfl, hLa, hbel3⟩
        have hrow3 := hrow2.below hbel3 hsz2
        have hsz3 : w.heap.size < w3.heap.size := Nat.lt_of_lt_of_le hsz2 hbel3.size
        have hb3 : Below w.heap.size w w3 := hb2.trans (hbel3.mono hb2.size)
        clear hrow2 hbel3 hsz2 hb2
        go_wp2_with fail
        refine (zzLine_any w.heap.size 0 n n q l f w3 hn (Nat.le_refl _) hq HF.out hsz3 hrow3).mono ?_
        rintro e w4 ⟨pb, tb, rfl, hLb, hbel4⟩
        have hb4 : Below w.heap.size w w4 := hb3.trans (hbel4.mono hb3.size)
        obtain ⟨e1, e2⟩ := Pl.line_unique (Pl.line_skip hB.1 (Pl.blanks_plain hB) hLa) hLb
        subst e1
        subst e2
        clear hLa hLb hB hrow3 hsz3 hb3 hbel4
        generalize lineAt l ta = l2
        go_wp2
        go_ret
        exact ⟨rfl, hb4⟩
  · go_enter Try.func9, Try.ntmps9
    go_wp2_with fail
    refine (zz20_no _ _ _ _ _ w (by omega)).mono ?_
    rintro e w' ⟨rfl, rfl⟩
    go_wp2
    go_ret
    exact ⟨rfl, Below.refl _ _⟩

/-! The nil slice. -/
set_option maxHeartbeats 800000 in
theorem at_nil (g : Nat) (l cv : Int) (w : World) (hs : Sc w g (.slice none 0 0) 0 l) :
    Calls Try.prog 26 #[.pointer (some ⟨g, 0, none⟩), .int .u8 cv] w fun e w' => e = .returned (.bool false) ∧ ∃ m, w' = w.drewN m := by
  have hd := hs.data
  have hps := hs.pos
  have hdd : decide ((0 : Int) < (0 : Int)) = false := by simp
  go_enter Try.func26, Try.ntmps26
  go_wp2
  go_quiet (fail)
  go_wp2
  go_ret
  exact ⟨rfl, _, rfl⟩

set_option maxHeartbeats 800000 in
theorem skipBlanks_nil (g : Nat) (l : Int) (w : World) (hs : Sc w g (.slice none 0 0) 0 l) :
    Calls Try.prog 22 #[.pointer (some ⟨g, 0, none⟩)] w fun e w' => e = .returned (.bool false) ∧ ∃ m, w' = w.drewN m := by
  have hps := hs.pos
  go_enter Try.func22, Try.ntmps22
  go_wp2
  refine wp_loop_rounds 1 ?_
  rw [rounds_succ]
  go_wp2_with (first | (go_at_call 26; refine (at_nil g l _ _ (by first | exact hs | exact hs.draw _ | exact (hs.draw _).draw _)).mono ?_; rintro e w' ⟨rfl, m, rfl⟩) | go_in)
  go_ret
  exact ⟨rfl, _, rfl⟩

set_option maxHeartbeats 800000 in
theorem zzBlanks_nil (l : Int) (w : World) :
    Calls Try.prog 14 #[.slice none 0 0, .int .i64 0, .int .i64 l] w fun e w' => e = .returned (.tuple #[.bool false, .int .i64 0, .int .i64 l]) ∧ Below w.heap.size w w' := by
  have hs := Sc.made w (.slice none 0 0) 0 l 34
  go_enter Try.func14, Try.ntmps14
  go_wp2_with fail
  refine (skipBlanks_nil w.heap.size l _ hs).mono ?_
  rintro e w' ⟨rfl, m, rfl⟩
  have hps := hs.pos
  have hln := hs.line
  go_wp2
  go_quiet (fail)
  go_wp2
  go_ret3
  exact ⟨rfl, below_drewN (below_made (below_drewN (Below.refl _ _) _)) _⟩

set_option maxHeartbeats 1600000 in
theorem law3_nil (p l : Int) (w : World) :
    Calls Try.prog 9 #[.slice none 0 0, .int .i64 p, .int .i64 l] w fun e w' => e = .returned (.bool true) ∧ Below w.heap.size w w' := by
  by_cases hp0 : p < 0
  · go_enter Try.func9, Try.ntmps9
    go_wp2_with fail
    refine (zz20_yes _ _ _ _ _ w (by omega)).mono ?_
    rintro e w' ⟨rfl, rfl⟩
    go_wp2
    go_ret
    exact ⟨rfl, Below.refl _ _⟩
  · by_cases hp1 : 0 < p
    · go_enter Try.func9, Try.ntmps9
      go_wp2_with fail
      refine (zz20_yes _ _ _ _ _ w (by omega)).mono ?_
      rintro e w' ⟨rfl, rfl⟩
      go_wp2
      go_ret
      exact ⟨rfl, Below.refl _ _⟩
    · obtain rfl : p = 0 := by omega
      go_enter Try.func9, Try.ntmps9
      go_wp2_with fail
      refine (zz20_yes _ _ _ _ _ w (by omega)).mono ?_
      rintro e w' ⟨rfl, rfl⟩
      go_wp2_with fail
      refine (clone_nil w).mono ?_
      rintro e w' ⟨rfl, rfl⟩
      go_wp2_with fail
      refine (zzBlanks_nil l w).mono ?_
      rintro e w2 ⟨rfl, hb2⟩
      go_wp2_with fail
      refine (zzLine_nil l w2).mono ?_
      rintro e w3 ⟨rfl, hb3⟩
      go_wp2_with fail
      refine (zzLine_nil l w3).mono ?_
      rintro e w4 ⟨rfl, hb4⟩
      have h3 : Below w.heap.size w w3 := hb2.trans (hb3.mono hb2.size)
      have h4 : Below w.heap.size w w4 := h3.trans (hb4.mono h3.size)
      clear hb2 hb3 hb4 h3
      go_wp2
      go_ret
      exact ⟨rfl, h4⟩

end Go.Proofs.Qxb6000360a
