import Derived.Test.Qxb6000360aLine
namespace Go.Proofs.Qxb6000360a
open Go.RowKit
set_option linter.unusedVariables false

/-- Is byte p there, and is it c? -/
def atB (f : Nat → Int) (n p : Nat) (c : Int) : Bool := decide (p < n) && (f p == c)

set_option maxHeartbeats 800000 in
theorem at_any (g b o n c p : Nat) (l cv : Int) (f : Nat → Int) (w : World) (hn : n ≤ 1048576) (hp : p ≤ n) (hs : Sc w g (.slice (some ⟨b, o, none⟩) n c) p l) (hc : Row w b o n f) :
    Calls Try.prog 26 #[.pointer (some ⟨g, 0, none⟩), .int .u8 cv] w fun e w' => e = .returned (.bool (atB f n p cv)) ∧ ∃ m, w' = w.drewN m := by
  have hd := hs.data
  have hps := hs.pos
  by_cases hlt : p < n
  · have hcell := hc p hlt
    have HA : Hid (atB f n p cv = (f p == cv)) := by simp [Hid, atB, hlt]
    go_enter Try.func26, Try.ntmps26
    go_wp2
    go_quiet (fail)
    go_wp2
    go_ret
    exact ⟨ret_bool (by rw [HA.out]), _, rfl⟩
  · have HA : Hid (atB f n p cv = false) := by simp [Hid, atB, hlt]
    have hdd : decide ((p : Int) < (n : Int)) = false := by simp; omega
    go_enter Try.func26, Try.ntmps26
    go_wp2
    go_quiet (fail)
    go_wp2
    go_ret
    exact ⟨ret_bool (by rw [HA.out]), _, rfl⟩

set_option maxHeartbeats 800000 in
theorem atBlank_any (g b o n c p : Nat) (l : Int) (f : Nat → Int) (w : World) (hn : n ≤ 1048576) (hp : p ≤ n) (hs : Sc w g (.slice (some ⟨b, o, none⟩) n c) p l) (hc : Row w b o n f) :
    Calls Try.prog 24 #[.pointer (some ⟨g, 0, none⟩)] w fun e w' => e = .returned (.bool (atB f n p 32 || atB f n p 9)) ∧ ∃ m, w' = w.drewN m := by
  cases h1 : atB f n p 32 with
  | true =>
    have H1 : Hid (atB f n p 32 = true) := h1
    clear h1
    go_enter Try.func24, Try.ntmps24
    go_wp2_with fail
    refine (at_any g b o n c p l 32 f w hn hp hs hc).mono ?_
    rintro e w' ⟨rfl, m, rfl⟩
    rw [H1.out]
    go_wp2
    go_ret
    exact ⟨ret_bool (by simp), _, rfl⟩
  | false =>
    have H1 : Hid (atB f n p 32 = false) := h1
    clear h1
    go_enter Try.func24, Try.ntmps24
    go_wp2_with fail
    refine (at_any g b o n c p l 32 f w hn hp hs hc).mono ?_
    rintro e w' ⟨rfl, m, rfl⟩
    rw [H1.out]
    go_wp2_with fail
    refine (at_any g b o n c p l 9 f (w.drewN m) hn hp (hs.draw m) hc).mono ?_
    rintro e w' ⟨rfl, m', rfl⟩
    generalize hv : atB f n p 9 = v
    have HV : Hid (atB f n p 9 = v) := hv
    clear hv
    go_wp2
    go_ret
    exact ⟨ret_bool (by simp [HV.out]), _, rfl⟩

theorem atB_blank {f : Nat → Int} {n p : Nat} (hlt : p < n) : (atB f n p 32 || atB f n p 9) = Pl.isBl (f p) := by
  simp only [atB, Pl.isBl, hlt, decide_true, Bool.true_and]
  by_cases h1 : f p = 32 <;> by_cases h2 : f p = 9 <;> simp [h1, h2]

theorem atB_end {f : Nat → Int} {n p : Nat} (hlt : ¬ p < n) : (atB f n p 32 || atB f n p 9) = false := by
  simp [atB, hlt]

set_option maxHeartbeats 800000 in
theorem skipBlanks_any (g b o n c p : Nat) (l : Int) (f : Nat → Int) (w : World) (hn : n ≤ 1048576) (hp : p ≤ n) (hbg : b < g) (hs : Sc w g (.slice (some ⟨b, o, none⟩) n c) p l) (hc : Row w b o n f) :
    Calls Try.prog 22 #[.pointer (some ⟨g, 0, none⟩)] w fun e w' => ∃ (np : Nat) (v : Bool), e = .returned (.bool v) ∧ Pl.Blanks f n p np ∧ Sc w' g (.slice (some ⟨b, o, none⟩) n c) np l ∧ Below g w w' := by
  have hps0 := hs.pos
  go_enter Try.func22, Try.ntmps22
  go_wp2
  go_loopg [8] (n - p) (fun j _ wr => ∃ k : Nat, k + j = n ∧ p ≤ k ∧ Hid (∀ i, p ≤ i → i < k → Pl.isBl (f i) = true) ∧ Sc wr g (.slice (some ⟨b, o, none⟩) n c) k l ∧ Below g w wr)
  case atStart => exact ⟨p, by omega, Nat.le_refl _, fun i h1 h2 => by omega, hs, Below.refl _ _⟩
  case round =>
    clear hps0 hs
    obtain ⟨k, hkj, hpk, HJ, hs, hbel⟩ := hrel
    have HKJ : Hid (k + gk = n) := hkj
    have hps := hs.pos
    have hfp := hs.fp
    have hrow := hc.below hbel hbg
    by_cases hlt : k < n
    · have hgk : 0 < gk := by omega
      clear hkj
      cases hb : Pl.isBl (f k) with
      | true =>
        have HB : Hid (Pl.isBl (f k) = true) := hb
        have HA : Hid ((atB f n k 32 || atB f n k 9) = true) := by rw [Hid, atB_blank hlt]; exact hb
        clear hb
        go_wp2_with fail
        refine (atBlank_any g b o n c k l f wr hn (by omega) hs hrow).mono ?_
        rintro e w' ⟨rfl, m, rfl⟩
        rw [HA.out]
        go_wp2
        go_roundg (gk - 1)
        case measure => omega
        case rel => exact ⟨k + 1, by have := HKJ.out; omega, by omega, fun i h1 h2 => by
            by_cases e : i = k
            · rw [e]; exact HB.out
            · exact HJ.out i h1 (by omega), (hs.draw _).setPos _ _ (by omega), below_cell (below_drewN hbel _) _ _⟩
      | false =>
        have HB : Pl.Blanks f n p k := ⟨hpk, by omega, HJ.out, fun _ => hb⟩
        have HA : Hid ((atB f n k 32 || atB f n k 9) = false) := by rw [Hid, atB_blank hlt]; exact hb
        clear hb HJ
        go_wp2_with fail
        refine (atBlank_any g b o n c k l f wr hn (by omega) hs hrow).mono ?_
        rintro e w' ⟨rfl, m, rfl⟩
        rw [HA.out]
        go_wp2
        go_ret
        exact ⟨k, _, rfl, HB, hs.draw _, below_drewN hbel _⟩
    · have HB : Pl.Blanks f n p k := ⟨hpk, by omega, HJ.out, fun h => absurd h hlt⟩
      have HA : Hid ((atB f n k 32 || atB f n k 9) = false) := atB_end hlt
      have hkn : k ≤ n := by omega
      clear hkj HJ
      go_wp2_with fail
      refine (atBlank_any g b o n c k l f wr hn hkn hs hrow).mono ?_
      rintro e w' ⟨rfl, m, rfl⟩
      rw [HA.out]
      go_wp2
      go_ret
      exact ⟨k, _, rfl, HB, hs.draw _, below_drewN hbel _⟩

set_option maxHeartbeats 800000 in
theorem zzBlanks_any (b o n c p : Nat) (l : Int) (f : Nat → Int) (w : World) (hn : n ≤ 1048576) (hp : p ≤ n) (hb : b < w.heap.size) (hc : Row w b o n f) :
    Calls Try.prog 14 #[.slice (some ⟨b, o, none⟩) n c, .int .i64 p, .int .i64 l] w fun e w' => ∃ (np : Nat) (v : Bool), e = .returned (.tuple #[.bool v, .int .i64 np, .int .i64 l]) ∧ Pl.Blanks f n p np ∧ Below w.heap.size w w' := by
  have hs := Sc.made w (.slice (some ⟨b, o, none⟩) n c) p l 34
  have hb2 : Below w.heap.size w (w.alloc (.cells #[.slice (some ⟨b, o, none⟩) n c, .int .i64 p, .int .i64 l] 34)) := (Below.refl _ _).alloc (Nat.le_refl _) _
  have hc2 := hc.below hb2 hb
  go_enter Try.func14, Try.ntmps14
  go_wp2_with fail
  refine (skipBlanks_any w.heap.size b o n c p l f _ hn hp hb hs hc2).mono ?_
  rintro e w' ⟨np, v, rfl, hL, hs', hbel⟩
  have hps := hs'.pos
  have hln := hs'.line
  go_wp2
  go_quiet (fail)
  go_wp2
  go_ret3
  exact ⟨np, v, rfl, hL, below_drewN (below_made hbel) _⟩

end Go.Proofs.Qxb6000360a
