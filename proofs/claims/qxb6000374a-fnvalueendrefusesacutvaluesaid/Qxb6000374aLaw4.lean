import Derived.Test.Qxb6000374aWrite
import Derived.Test.Qxb6000374aValEnd
namespace Go.Proofs.Qxb6000374a
open Go.RowKit
set_option linter.unusedVariables false

set_option maxHeartbeats 400000 in
theorem zz23_yes (a : Option Addr) (n c : Nat) (l : Int) (w : World) (hn : n ≤ 1048576) :
    Calls Try.prog 23 #[.slice a n c, .int .u32 l] w fun e w' => w = w' ∧ e = .returned (.bool true) := by
  go_enter Try.func23, Try.ntmps23
  go_wp2
  go_ret
  exact ⟨rfl, rfl⟩

set_option maxHeartbeats 400000 in
theorem zz23_no (a : Option Addr) (n c : Nat) (l : Int) (w : World) (hn : 1048576 < n) :
    Calls Try.prog 23 #[.slice a n c, .int .u32 l] w fun e w' => w = w' ∧ e = .returned (.bool false) := by
  go_enter Try.func23, Try.ntmps23
  go_wp2
  go_ret
  exact ⟨rfl, rfl⟩

/-- A proper head of a whole text has no end. -/
theorem val_cut {xs : List Int} {f : Nat → Int} {k : Nat} {r : Int} (h : Pl.Fin xs) (hf : ∀ i, i < xs.length → f i = xs.getD i 0) (hk : k < xs.length) (hr : ValRes f k 0 r) : r = -1 := by
  obtain ⟨h1, h2, h3⟩ := Pl.fin_deep h f hf
  have hd := h3 k hk
  rcases hr with ⟨h4, _⟩ | ⟨_, h4⟩ | ⟨_, _, h4, _⟩
  · omega
  · rcases h4 with ⟨q, _, a1, a2, a3, _⟩ | ⟨h5, _⟩
    · exact absurd a3 (hd q a1 a2)
    · exact h5
  · omega

set_option maxHeartbeats 1600000 in
theorem law4_any (ao : Option Addr) (n c : Nat) (p : Int) (f : Nat → Int) (w : World) (hp : 0 ≤ p ∧ p ≤ 4294967295) (hf : ∀ i, 0 ≤ f i ∧ f i ≤ 255) (hA : Came w ao n c f) :
    Calls Try.prog 7 #[.slice ao n c, .int .u32 p] w fun e w' => e = .returned (.bool true) ∧ Below w.heap.size w w' := by
  by_cases hn : n ≤ 1048576
  · by_cases hn2 : n ≤ 65536
    · have HF : Hid (∀ i, 0 ≤ f i ∧ f i ≤ 255) := hf
      obtain ⟨hp0, hp1⟩ := hp
      clear hf
      go_enter Try.func7, Try.ntmps7
      go_wp2_with fail
      refine (zz23_yes _ _ _ _ w hn).mono ?_
      rintro e w' ⟨rfl, rfl⟩
      go_wp2_with fail
      refine (clone_src ao n c f w hn hA).mono ?_
      rintro e w1 ⟨a1, rfl, hS1, hbel1⟩
      clear hA
      go_wp2_with fail
      refine (write_any a1 n f w1 hn2 HF.out hS1).mono ?_
      rintro e w2 ⟨N, g, cc, xs, rfl, hcap, hN, hlen, hF, hrow, hbel2⟩
      have hB : Below w.heap.size w w2 := hbel1.trans (hbel2.mono hbel1.size)
      have h2N : 2 ≤ N := by have := (Pl.fin_deep hF (fun i => xs.getD i 0) (fun _ _ => rfl)).1; omega
      obtain ⟨M, rfl⟩ : ∃ M, N = M + 1 := ⟨N - 1, by omega⟩
      have hM : 1 ≤ M := by omega
      have hm0 : ((M : Int) == 0) = false := bfalse (by omega)
      have HL : Hid (xs.length = M + 1) := hlen
      have q0 : 0 ≤ p % (M : Int) := Int.emod_nonneg p (by omega)
      have q1 : p % (M : Int) < (M : Int) := Int.emod_lt_of_pos p (by omega)
      obtain ⟨q, hq⟩ := Int.eq_ofNat_of_zero_le q0
      have hqM : q < M := by omega
      have hrowC : Row w2 g 0 (1 + q) (fun i => xs.getD i 0) := fun i hi => hrow i (by omega)
      have HX : Hid (∀ i, 0 ≤ xs.getD i 0 ∧ xs.getD i 0 ≤ 255) := Pl.fin_byt hF
      clear hlen hbel1 hbel2 hS1 h2N q0 q1
      go_wp2_with fail
      refine (zzVal_any g 0 (1 + q) cc 0 (fun i => xs.getD i 0) w2 (by omega) (by omega) (by omega) HX.out hrowC).mono ?_
      rintro e w' ⟨rfl, r, rfl, hr⟩
      obtain rfl := val_cut hF (fun _ _ => rfl) (by have := HL.out; omega) hr
      clear hr hF hrow hrowC
      go_wp2
      go_ret
      exact ⟨rfl, hB⟩
    · go_enter Try.func7, Try.ntmps7
      go_wp2_with fail
      refine (zz23_yes _ _ _ _ w hn).mono ?_
      rintro e w' ⟨rfl, rfl⟩
      go_wp2
      go_ret
      exact ⟨rfl, Below.refl _ _⟩
  · go_enter Try.func7, Try.ntmps7
    go_wp2_with fail
    refine (zz23_no _ _ _ _ w (by omega)).mono ?_
    rintro e w' ⟨rfl, rfl⟩
    go_wp2
    go_ret
    exact ⟨rfl, Below.refl _ _⟩

/-- From what the frame tells of a slice to what the walks ask. -/
theorem came_of4 {w : World} {x : Addr} {len cap : Nat} {z : List Int} (hl : len ≤ cap) (hz : z.length = cap) (hcell : ∀ i, i < z.length → w.cell? (x.add i) = some (.int .u8 (z.getD i 0))) :
    Came w (some x) len cap (fun i => z.getD i 0) := by
  refine Or.inr ⟨x, rfl, ?_, fun i hi => hcell i (by omega)⟩
  by_cases h0 : len = 0
  · exact Or.inl h0
  · have := hcell 0 (by omega)
    exact Or.inr (by simpa [Addr.add] using block_lt this)

end Go.Proofs.Qxb6000374a
