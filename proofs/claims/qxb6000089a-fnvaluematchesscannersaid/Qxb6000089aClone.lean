import Derived.Test.Qxb6000089aFwd
import Derived.Lib.SliceRun
namespace Go.Proofs.Qxb6000089a
open Go.RowKit

theorem info5 : (Try.prog.info? 5).map (fun i => (i.zero, i.size, i.bytes)) = some (some (.int .u8 0), 1, 1) := by kernel_rfl

theorem owns_size {w : World} {B g : Nat} {xs : List Value} {n cap : Nat} (h : w.ownsRow B 5 1 (.slice (some ⟨g, 0, none⟩) n cap) n xs) : g < w.heap.size := by
  rcases h.2 with ⟨h', _⟩ | ⟨g', cap', cur, h', _, hg, _⟩
  · simp at h'
  · simp only [Value.slice.injEq, Option.some.injEq, Addr.mk.injEq, and_true, true_and] at h'
    obtain ⟨rfl, rfl⟩ := h'
    rcases Nat.lt_or_ge g w.heap.size with hh | hh
    · exact hh
    · rw [Array.getElem?_eq_none hh] at hg; cases hg

theorem clone_step {w wr : World} {n k : Nat} {f : Nat → Int} {xs : List Value} (hk : k < n)
    (hown : wr.ownsRow w.heap.size 5 1 (.slice (some ⟨w.heap.size, 0, none⟩) n n) n xs) (hxs : ∀ j, j < k → xs[j]? = some (.int .u8 (f j))) (hbel : Below w.heap.size w wr) :
    (wr.setCell ⟨w.heap.size, k, none⟩ (.int .u8 (f k))).ownsRow w.heap.size 5 1 (.slice (some ⟨w.heap.size, 0, none⟩) n n) n (xs.set k (.int .u8 (f k))) ∧
    (∀ j, j < k + 1 → (xs.set k (.int .u8 (f k)))[j]? = some (.int .u8 (f j))) ∧ Below w.heap.size w (wr.setCell ⟨w.heap.size, k, none⟩ (.int .u8 (f k))) := by
  have hlen : xs.length = n := by simpa using hown.1
  refine ⟨(hown.stored k _).1, fun j hj => ?_, hbel.setCell (Nat.le_refl _) _⟩
  rw [List.getElem?_set]
  by_cases e : k = j
  · subst e; rw [if_pos rfl, if_pos (by omega)]
  · rw [if_neg e]; exact hxs j (by omega)

set_option maxHeartbeats 400000 in
theorem clone_any (x : Addr) (n c : Nat) (f : Nat → Int) (w : World) (hn : n ≤ 1048576) (hb : n = 0 ∨ x.block < w.heap.size) (hc : ∀ i, i < n → w.cell? (x.add i) = some (.int .u8 (f i))) :
    Calls Try.prog 10 #[.slice (some x) n c] w fun e w' => e = .returned (.slice (some ⟨w.heap.size, 0, none⟩) n n) ∧ Row w' w.heap.size 0 n f ∧ Below w.heap.size w w' ∧ w.heap.size < w'.heap.size := by
  obtain ⟨i0, hi, hz0, hz1, hz2⟩ := info_parts info5
  have q22 : ∀ (w : World) (a : Option Addr) (n c n' c' : Nat), (binOp .eql 22 (.slice a n c) (.slice none n' c')).run Try.prog w = .ok (.bool a.isNone) w := fun w a n c n' c' => Lib.run_eql_slice_nil w _ _ a n c n' c' Try.underlying22
  go_enter Try.func10, Try.ntmps10
  go_wp2_with (at_make; refine wpList_make_full _ rfl _ _ 22 rfl w.heap.size 5 i0 (.int .u8 0) 1 Try.underlying22 hi hz0 hz1 _ _ _ _ n rfl rfl rfl rfl (by rw [hz2]; omega) (by unfold maxLen; omega) (Nat.le_refl _) ?_)
  intro w1 hown1 hgrow1
  have hbel1 : Below w.heap.size w w1 := (Below.refl _ _).grown hgrow1 (Nat.le_refl _) (by intro k h; cases h)
  clear hgrow1
  go_wp2
  go_loopw [4] (fun i wr => ∃ (k : Nat) (xs : List Value), k ≤ n ∧ i = .int .i64 k ∧ wr.ownsRow w.heap.size 5 1 (.slice (some ⟨w.heap.size, 0, none⟩) n n) n xs ∧ (∀ j, j < k → xs[j]? = some (.int .u8 (f j))) ∧ Below w.heap.size w wr)
    (fun i _ => n - (intOf i).toNat)
  case atStart => exact ⟨0, _, Nat.zero_le _, rfl, hown1, fun j hj => by omega, hbel1⟩
  case round =>
    obtain ⟨k, xs, hk, rfl, hown, hxs, hbel⟩ := hrel
    by_cases hlt : k < n
    · have hbl : x.block < w.heap.size := by omega
      have hcell : wr.cell? (x.add k) = some (.int .u8 (f k)) := (hbel.cell (p := x.add k) (by unfold Addr.add; split <;> exact hbl)).trans (hc k hlt)
      have hfr := hown.frozenAt k
      have hold := hown.cellAt k (by omega)
      have hlen : xs.length = n := by simpa using hown.1
      obtain ⟨v0, hv0⟩ : ∃ v0, xs[k]? = some v0 := ⟨xs[k]'(by omega), List.getElem?_eq_getElem (by omega)⟩
      rw [hv0] at hold
      have R := clone_step hlt hown hxs hbel
      clear hv0 hown hxs hbel hown1 hbel1
      go_wp2
      go_roundw
      case rel => exact ⟨k + 1, _, by omega, by go_num, R.1, R.2.1, R.2.2⟩
      case measure => simp [intOf]; omega
    · have hkn : k = n := by omega
      subst hkn
      have hsz := owns_size hown
      have hrow : Row wr w.heap.size 0 k f := fun i hi => by rw [Nat.zero_add, hown.cellAt i (by omega)]; exact hxs i hi
      clear hown hxs hown1 hbel1
      go_wp2
      go_ret
      exact ⟨rfl, hrow, hbel, hsz⟩

end Go.Proofs.Qxb6000089a
