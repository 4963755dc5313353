import Derived.Test.Qxb6000374aCat
namespace Go.Proofs.Qxb6000374a
open Go.RowKit
set_option linter.unusedVariables false

set_option maxHeartbeats 400000 in
theorem zz16_yes (a b : Option Addr) (n c m d : Nat) (l : Int) (w : World) (hn : n + m ≤ 1048576) :
    Calls Try.prog 16 #[.slice a n c, .slice b m d, .int .i64 l] w fun e w' => w = w' ∧ e = .returned (.bool true) := by
  go_enter Try.func16, Try.ntmps16
  go_wp2
  go_ret
  exact ⟨rfl, rfl⟩

set_option maxHeartbeats 400000 in
theorem zz16_no (a b : Option Addr) (n c m d : Nat) (l : Int) (w : World) (hn : 1048576 < n + m) :
    Calls Try.prog 16 #[.slice a n c, .slice b m d, .int .i64 l] w fun e w' => w = w' ∧ e = .returned (.bool false) := by
  by_cases h1 : 1048576 < n
  · go_enter Try.func16, Try.ntmps16
    go_wp2
    go_ret
    exact ⟨rfl, rfl⟩
  · by_cases h2 : 1048576 < m
    · go_enter Try.func16, Try.ntmps16
      go_wp2
      go_ret
      exact ⟨rfl, rfl⟩
    · go_enter Try.func16, Try.ntmps16
      go_wp2
      go_ret
      exact ⟨rfl, rfl⟩

set_option maxHeartbeats 1600000 in
theorem law2_core (ao bo : Option Addr) (n c m d s : Nat) (f g : Nat → Int) (w : World) (hf : ∀ i, 0 ≤ f i ∧ f i ≤ 255) (hg : ∀ i, 0 ≤ g i ∧ g i ≤ 255) (hA : Came w ao n c f) (hB : Came w bo m d g)
    (hnm : n + m ≤ 1048576) (hn : n ≤ 524288) (hm : m ≤ 524288) (hs : s < n) (hq : f s = 34) :
    Calls Try.prog 4 #[.slice ao n c, .slice bo m d, .int .i64 s] w fun e w' => e = .returned (.bool true) ∧ Below w.heap.size w w' := by
  have hA0 := hA
  rcases hA with ⟨_, h0, _⟩ | ⟨x, rfl, hb, hc⟩
  · omega
  have hcell := hc s hs
  have bq : (f s != 34) = false := by simp [hq]
  have HQ : Hid (f s = 34) := hq
  have HF : Hid (∀ i, 0 ≤ f i ∧ f i ≤ 255) := hf
  have HG : Hid (∀ i, 0 ≤ cat f n g i ∧ cat f n g i ≤ 255) := cat_byte n hf hg
  have HQ2 : Hid (cat f n g s = 34) := by rw [Hid, cat_lo hs]; exact hq
  have HAG : Hid (∀ i, i < n → f i = cat f n g i) := fun i hi => (cat_lo hi).symm
  clear hq hf hg hc hb
  go_enter Try.func4, Try.ntmps4
  go_wp2_with fail
  refine (zz16_yes _ _ _ _ _ _ _ w hnm).mono ?_
  rintro e w' ⟨rfl, rfl⟩
  go_wp2_with fail
  refine (clone_src (some x) n c f w (by omega) hA0).mono ?_
  rintro e w1 ⟨a1, rfl, hS1, hbel1⟩
  have hB1 := hB.below hbel1
  clear hcell bq hA0 hB
  rcases hS1 with ⟨_, h0⟩ | ⟨b1, rfl, hb1, hrow1⟩
  · omega
  go_wp2_with fail
  refine (clone_src bo m d g w1 (by omega) hB1).mono ?_
  rintro e w2 ⟨a2, rfl, hS2, hbel2⟩
  have hrow2 := hrow1.below hbel2 hb1
  have hb2 : b1 < w2.heap.size := Nat.lt_of_lt_of_le hb1 hbel2.size
  have hBw2 : Below w.heap.size w w2 := hbel1.trans (hbel2.mono hbel1.size)
  clear hB1 hrow1 hbel1 hbel2
  go_wp2_with fail
  refine (concat_any (some ⟨b1, 0, none⟩) a2 n m f g w2 (by omega) (by omega) (Src.mk hrow2 hb2) hS2).mono ?_
  rintro e w3 ⟨rfl, hrow3, hbel3, hsz3⟩
  have hrowA := hrow2.below hbel3 hb2
  have hBw3 : Below w.heap.size w w3 := hBw2.trans (hbel3.mono hBw2.size)
  clear hS2 hrow2 hBw2 hbel3
  go_wp2_with fail
  refine (strEnd_any b1 0 n n s f w3 (by omega) (Nat.le_refl _) hs HF.out HQ.out hrowA).mono ?_
  rintro e w' ⟨rfl, r, rfl, hr⟩
  go_wp2_with fail
  refine (strEnd_any w2.heap.size 0 (n + m) (n + m) s (cat f n g) w3 hnm (Nat.le_refl _) (by omega) HG.out HQ2.out hrow3).mono ?_
  rintro e w' ⟨rfl, r2, rfl, hr2⟩
  have HM := strRes_more HAG.out hr hr2 (by omega)
  clear hr2 hrow3
  rcases hr with ⟨q, rfl, hq⟩ | ⟨rfl, hno⟩
  · have hrr : r2 = (q : Int) := by
      rcases HM with ⟨_, h⟩ | ⟨h, _⟩
      · exact h
      · omega
    subst hrr
    clear HM
    obtain ⟨k, rfl⟩ : ∃ k, q = k + 1 := ⟨q - 1, by have := hq.1; omega⟩
    have h1 : s + 2 ≤ k + 1 := hq.1
    have h2 : k + 1 ≤ n := hq.2.1
    have hcell : w3.cell? ⟨b1, k, none⟩ = some (.int .u8 (f k)) := by
      have := hrowA k (by omega)
      rwa [Nat.zero_add] at this
    have b1' : (f k != 34) = false := by have := hq.2.2.1.1; simp only [Nat.add_sub_cancel] at this; simp [this]
    have HQE : Hid (Pl.StrEnd f n s (k + 1)) := hq
    clear hq
    have hrowC : Row w3 b1 0 (k + 1) f := fun i hi => hrowA i (by omega)
    go_wp2_with fail
    refine (strEnd_any b1 0 (k + 1) n s f w3 (by omega) h2 (by omega) HF.out HQ.out hrowC).mono ?_
    rintro e w' ⟨rfl, r3, rfl, hr3⟩
    obtain rfl := strRes_cut HQE.out hr3
    clear hr3
    go_wp2
    go_ret
    exact ⟨rfl, hBw3⟩
  · clear hno
    rcases HM with ⟨h, _⟩ | ⟨_, h⟩
    · omega
    · rcases h with rfl | h
      · go_wp2
        go_ret
        exact ⟨rfl, hBw3⟩
      · have b5 : (r2 == -1) = false := bfalse (by omega)
        go_wp2
        go_ret
        exact ⟨ret_bool (by simp), hBw3⟩

set_option maxHeartbeats 1600000 in
theorem law2_any (ao bo : Option Addr) (n c m d : Nat) (p : Int) (f g : Nat → Int) (w : World) (hf : ∀ i, 0 ≤ f i ∧ f i ≤ 255) (hg : ∀ i, 0 ≤ g i ∧ g i ≤ 255) (hA : Came w ao n c f) (hB : Came w bo m d g) :
    Calls Try.prog 4 #[.slice ao n c, .slice bo m d, .int .i64 p] w fun e w' => e = .returned (.bool true) ∧ Below w.heap.size w w' := by
  by_cases hnm : n + m ≤ 1048576
  · by_cases hn : n ≤ 524288
    · by_cases hm : m ≤ 524288
      · by_cases hp0 : p < 0
        · go_enter Try.func4, Try.ntmps4
          go_wp2_with fail
          refine (zz16_yes _ _ _ _ _ _ _ w hnm).mono ?_
          rintro e w' ⟨rfl, rfl⟩
          go_wp2
          go_ret
          exact ⟨rfl, Below.refl _ _⟩
        · by_cases hp1 : (n : Int) ≤ p
          · go_enter Try.func4, Try.ntmps4
            go_wp2_with fail
            refine (zz16_yes _ _ _ _ _ _ _ w hnm).mono ?_
            rintro e w' ⟨rfl, rfl⟩
            go_wp2
            go_ret
            exact ⟨rfl, Below.refl _ _⟩
          · obtain ⟨s, rfl⟩ := Int.eq_ofNat_of_zero_le (show 0 ≤ p by omega)
            have hs : s < n := by omega
            by_cases h34 : f s = 34
            · exact law2_core ao bo n c m d s f g w hf hg hA hB hnm hn hm hs h34
            · rcases hA with ⟨_, h0, _⟩ | ⟨x, rfl, hb, hc⟩
              · omega
              have hcell := hc s hs
              have bq : (f s != 34) = true := by simp [h34]
              clear h34 hf hg hc hB
              go_enter Try.func4, Try.ntmps4
              go_wp2_with fail
              refine (zz16_yes _ _ _ _ _ _ _ w hnm).mono ?_
              rintro e w' ⟨rfl, rfl⟩
              go_wp2
              go_ret
              exact ⟨rfl, Below.refl _ _⟩
      · go_enter Try.func4, Try.ntmps4
        go_wp2_with fail
        refine (zz16_yes _ _ _ _ _ _ _ w hnm).mono ?_
        rintro e w' ⟨rfl, rfl⟩
        go_wp2
        go_ret
        exact ⟨rfl, Below.refl _ _⟩
    · go_enter Try.func4, Try.ntmps4
      go_wp2_with fail
      refine (zz16_yes _ _ _ _ _ _ _ w hnm).mono ?_
      rintro e w' ⟨rfl, rfl⟩
      go_wp2
      go_ret
      exact ⟨rfl, Below.refl _ _⟩
  · go_enter Try.func4, Try.ntmps4
    go_wp2_with fail
    refine (zz16_no _ _ _ _ _ _ _ w (by omega)).mono ?_
    rintro e w' ⟨rfl, rfl⟩
    go_wp2
    go_ret
    exact ⟨rfl, Below.refl _ _⟩

/-- From what the frame tells of a slice to what the walks ask. -/
theorem came_of {w : World} {x : Addr} {len cap : Nat} {z : List Int} (hl : len ≤ cap) (hz : z.length = cap) (hcell : ∀ i, i < z.length → w.cell? (x.add i) = some (.int .u8 (z.getD i 0))) :
    Came w (some x) len cap (fun i => z.getD i 0) := by
  refine Or.inr ⟨x, rfl, ?_, fun i hi => hcell i (by omega)⟩
  by_cases h0 : len = 0
  · exact Or.inl h0
  · have := hcell 0 (by omega)
    exact Or.inr (by simpa [Addr.add] using block_lt this)

end Go.Proofs.Qxb6000374a
