import Derived.Test.Qxb6000374aLaw3
namespace Go.Proofs.Qxb6000374a
open Go.RowKit
set_option linter.unusedVariables false

set_option maxRecDepth 100000 in
set_option maxHeartbeats 4000000 in
theorem law3_core (ao bo : Option Addr) (n c m d s : Nat) (f g : Nat → Int) (w : World) (hf : ∀ i, 0 ≤ f i ∧ f i ≤ 255) (hg : ∀ i, 0 ≤ g i ∧ g i ≤ 255) (hA : Came w ao n c f) (hB : Came w bo m d g)
    (hnm : n + m ≤ 1048576) (hn : n ≤ 524288) (hm : m ≤ 524288) (hs : s < n) :
    Calls Try.prog 8 #[.slice ao n c, .slice bo m d, .int .i64 s] w fun e w' => e = .returned (.bool true) ∧ Below w.heap.size w w' := by
  have HF : Hid (∀ i, 0 ≤ f i ∧ f i ≤ 255) := hf
  have HG : Hid (∀ i, 0 ≤ cat f n g i ∧ cat f n g i ≤ 255) := cat_byte n hf hg
  clear hf hg
  go_enter Try.func8, Try.ntmps8
  go_wp2_with fail
  refine (zz24_yes _ _ _ _ _ _ _ w hnm).mono ?_
  rintro e w' ⟨rfl, rfl⟩
  go_wp2_with fail
  refine (clone_src ao n c f w (by omega) hA).mono ?_
  rintro e w1 ⟨a1, rfl, hS1, hbel1⟩
  have hB1 := hB.below hbel1
  clear hA hB
  rcases hS1 with ⟨_, h0⟩ | ⟨b1, rfl, hb1, hrow1⟩
  · omega
  go_wp2_with fail
  refine (clone_src bo m d g w1 (by omega) hB1).mono ?_
  rintro e w2 ⟨a2, rfl, hS2, hbel2⟩
  have hrow2 := hrow1.below hbel2 hb1
  have hb2 : b1 < w2.heap.size := Nat.lt_of_lt_of_le hb1 hbel2.size
  have hBw2 : Below w.heap.size w w2 := hbel1.trans (hbel2.mono hbel1.size)
  clear hB1 hrow1 hbel1 hbel2
  go_wp2_with fail
  refine (concat_any (some ⟨b1, 0, none⟩) a2 n m f g w2 (by omega) (by omega) (Src.mk hrow2 hb2) hS2).mono ?_
  rintro e w3 ⟨rfl, hrow3, hbel3, hsz3⟩
  have hrowA := hrow2.below hbel3 hb2
  have hS3 := hS2.below hbel3 (Nat.le_refl _)
  have hBw3 : Below w.heap.size w w3 := hBw2.trans (hbel3.mono hBw2.size)
  clear hS2 hrow2 hBw2 hbel3
  go_wp2_with fail
  refine (zzVal_any b1 0 n n s f w3 (by omega) (Nat.le_refl _) hs HF.out hrowA).mono ?_
  rintro e w' ⟨rfl, r, rfl, hr⟩
  go_wp2_with fail
  refine (zzVal_any w2.heap.size 0 (n + m) (n + m) s (cat f n g) w3 hnm (Nat.le_refl _) (by omega) HG.out hrow3).mono ?_
  rintro e w' ⟨rfl, r2, rfl, hr2⟩
  have HM := val_more hs hr hr2
  clear hr hr2 hrow3
  rcases HM with ⟨rfl, h⟩ | ⟨q, rfl, h1, h2, h3, h4, h5⟩
  · rcases h with rfl | h
    · go_wp2
      go_ret
      exact ⟨rfl, hBw3⟩
    · have b5 : (r2 == -1) = false := bfalse (by omega)
      go_wp2
      go_ret
      exact ⟨ret_bool (by simp), hBw3⟩
  · have hcell : w3.cell? ⟨b1, s, none⟩ = some (.int .u8 (f s)) := by
      have := hrowA s hs
      rwa [Nat.zero_add] at this
    have hrowC : Row w3 b1 0 q f := fun i hi => hrowA i (by omega)
    have H3 : Hid (∀ r', ValRes f q s r' → r' = q) := h3
    have H4 : Hid ((f s = 34 ∨ f s = 123 ∨ f s = 91 ∨ q < n ∨ m = 0 ∨ Pl.isDel (g 0) = true) → r2 = q) := h4
    have H5 : Hid ((f s ≠ 34 ∧ f s ≠ 123 ∧ f s ≠ 91 ∧ ¬ q < n ∧ m ≠ 0 ∧ Pl.isDel (g 0) = false) → (q : Int) < r2) := h5
    clear h3 h4 h5
    go_wp2_with fail
    refine (zzVal_any b1 0 q n s f w3 (by omega) h2 (by omega) HF.out hrowC).mono ?_
    rintro e w' ⟨rfl, r3, rfl, hr3⟩
    obtain rfl := H3.out r3 hr3
    clear hr3 hrowC hrowA H3
    by_cases k1 : f s = 34
    · have c1 := btrue k1
      obtain rfl := H4.out (Or.inl k1)
      clear k1 H4 H5
      go_wp2
      go_ret
      exact ⟨ret_bool (by simp), hBw3⟩
    have c1 := bfalse k1
    by_cases k2 : f s = 123
    · have c2 := btrue k2
      obtain rfl := H4.out (Or.inr (Or.inl k2))
      clear k1 k2 H4 H5
      go_wp2
      go_ret
      exact ⟨ret_bool (by simp), hBw3⟩
    have c2 := bfalse k2
    by_cases k3 : f s = 91
    · have c3 := btrue k3
      obtain rfl := H4.out (Or.inr (Or.inr (Or.inl k3)))
      clear k1 k2 k3 H4 H5
      go_wp2
      go_ret
      exact ⟨ret_bool (by simp), hBw3⟩
    have c3 := bfalse k3
    by_cases k4 : q < n
    · obtain rfl := H4.out (Or.inr (Or.inr (Or.inr (Or.inl k4))))
      clear k1 k2 k3 H4 H5
      go_wp2
      go_ret
      exact ⟨ret_bool (by simp), hBw3⟩
    by_cases k5 : m = 0
    · obtain rfl := H4.out (Or.inr (Or.inr (Or.inr (Or.inr (Or.inl k5)))))
      subst k5
      clear k1 k2 k3 H4 H5
      go_wp2
      go_ret
      exact ⟨ret_bool (by simp), hBw3⟩
    rcases hS3 with ⟨_, h0⟩ | ⟨b2, rfl, _, hrowT⟩
    · omega
    have hcellT : w3.cell? ⟨b2, 0, none⟩ = some (.int .u8 (g 0)) := hrowT 0 (by omega)
    have c5 : ((m : Int) == 0) = false := bfalse (by omega)
    have hm0 : (0 : Int) < (m : Int) := by omega
    clear hrowT
    cases k6 : Pl.isDel (g 0) with
    | true =>
      obtain rfl := H4.out (Or.inr (Or.inr (Or.inr (Or.inr (Or.inr k6)))))
      have K6 : Hid (Pl.isDel (g 0) = true) := k6
      clear k1 k2 k3 k6 H4 H5
      go_wp2_with fail
      refine (follow_any (g 0) w3).mono ?_
      rintro e w' ⟨rfl, rfl⟩
      rw [K6.out]
      go_wp2
      go_ret
      exact ⟨ret_bool (by simp), hBw3⟩
    | false =>
      have hlt := H5.out ⟨k1, k2, k3, k4, k5, k6⟩
      have K6 : Hid (Pl.isDel (g 0) = false) := k6
      clear k1 k2 k3 k6 H4 H5
      go_wp2_with fail
      refine (follow_any (g 0) w3).mono ?_
      rintro e w' ⟨rfl, rfl⟩
      rw [K6.out]
      go_wp2
      go_ret
      exact ⟨ret_bool (by simp), hBw3⟩

set_option maxHeartbeats 1600000 in
theorem law3_any (ao bo : Option Addr) (n c m d : Nat) (p : Int) (f g : Nat → Int) (w : World) (hf : ∀ i, 0 ≤ f i ∧ f i ≤ 255) (hg : ∀ i, 0 ≤ g i ∧ g i ≤ 255) (hA : Came w ao n c f) (hB : Came w bo m d g) :
    Calls Try.prog 8 #[.slice ao n c, .slice bo m d, .int .i64 p] w fun e w' => e = .returned (.bool true) ∧ Below w.heap.size w w' := by
  by_cases hnm : n + m ≤ 1048576
  · by_cases hn : n ≤ 524288
    · by_cases hm : m ≤ 524288
      · by_cases hp0 : p < 0
        · go_enter Try.func8, Try.ntmps8
          go_wp2_with fail
          refine (zz24_yes _ _ _ _ _ _ _ w hnm).mono ?_
          rintro e w' ⟨rfl, rfl⟩
          go_wp2
          go_ret
          exact ⟨rfl, Below.refl _ _⟩
        · by_cases hp1 : (n : Int) ≤ p
          · go_enter Try.func8, Try.ntmps8
            go_wp2_with fail
            refine (zz24_yes _ _ _ _ _ _ _ w hnm).mono ?_
            rintro e w' ⟨rfl, rfl⟩
            go_wp2
            go_ret
            exact ⟨rfl, Below.refl _ _⟩
          · obtain ⟨s, rfl⟩ := Int.eq_ofNat_of_zero_le (show 0 ≤ p by omega)
            exact law3_core ao bo n c m d s f g w hf hg hA hB hnm hn hm (by omega)
      · go_enter Try.func8, Try.ntmps8
        go_wp2_with fail
        refine (zz24_yes _ _ _ _ _ _ _ w hnm).mono ?_
        rintro e w' ⟨rfl, rfl⟩
        go_wp2
        go_ret
        exact ⟨rfl, Below.refl _ _⟩
    · go_enter Try.func8, Try.ntmps8
      go_wp2_with fail
      refine (zz24_yes _ _ _ _ _ _ _ w hnm).mono ?_
      rintro e w' ⟨rfl, rfl⟩
      go_wp2
      go_ret
      exact ⟨rfl, Below.refl _ _⟩
  · go_enter Try.func8, Try.ntmps8
    go_wp2_with fail
    refine (zz24_no _ _ _ _ _ _ _ w (by omega)).mono ?_
    rintro e w' ⟨rfl, rfl⟩
    go_wp2
    go_ret
    exact ⟨rfl, Below.refl _ _⟩

/-- From what the frame tells of a slice to what the walks ask. -/
theorem came_of3 {w : World} {x : Addr} {len cap : Nat} {z : List Int} (hl : len ≤ cap) (hz : z.length = cap) (hcell : ∀ i, i < z.length → w.cell? (x.add i) = some (.int .u8 (z.getD i 0))) :
    Came w (some x) len cap (fun i => z.getD i 0) := by
  refine Or.inr ⟨x, rfl, ?_, fun i hi => hcell i (by omega)⟩
  by_cases h0 : len = 0
  · exact Or.inl h0
  · have := hcell 0 (by omega)
    exact Or.inr (by simpa [Addr.add] using block_lt this)

end Go.Proofs.Qxb6000374a
