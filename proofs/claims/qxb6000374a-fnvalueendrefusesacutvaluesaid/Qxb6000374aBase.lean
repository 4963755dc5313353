import Derived.Test.Qxb6000374aRows
import Derived.WalkKit
import Derived.WalkSpells
import Derived.WalkLawsBesides
import Derived.Lib.SliceRun
import Derived.Lib.BytesEntry
import Derived.Lib.IndexLaws
import Derived.Laws.Externs
import Derived.Deep.LoopGhost
import Derived.Deep.QuietTactic
import Derived.BigQuiet
import Derived.Deep.RegionWith
namespace Go.Proofs.Qxb6000374a
open Go.RowKit

theorem ret_int {k : IntKind} {a b : Int} (h : a = b) : Ending.returned (.int k a) = .returned (.int k b) := by rw [h]
theorem ret_bool {a b : Bool} (h : a = b) : Ending.returned (.bool a) = .returned (.bool b) := by rw [h]
theorem bfalse {a b : Int} (h : a ≠ b) : (a == b) = false := by simp [h]
theorem btrue {a b : Int} (h : a = b) : (a == b) = true := by simp [h]

/-- The first n bytes at block b, from o on, are f's. -/
def Row (w : World) (b o n : Nat) (f : Nat → Int) : Prop := ∀ i, i < n → w.cell? ⟨b, o + i, none⟩ = some (.int .u8 (f i))

theorem Row.shift {w : World} {b o n : Nat} {f : Nat → Int} (h : Row w b o n f) (k : Nat) : Row w b (o + k) (n - k) (fun i => f (k + i)) := fun i hi => by
  rw [Nat.add_assoc]; exact h (k + i) (by omega)

theorem Row.below {w w' : World} {g b o n : Nat} {f : Nat → Int} (h : Row w b o n f) (hb : Below g w w') (hl : b < g) : Row w' b o n f := fun i hi => (hb.cell (p := ⟨b, o + i, none⟩) hl).trans (h i hi)

theorem block_lt {w : World} {a : Addr} {v : Value} (h : w.cell? a = some v) : a.block < w.heap.size := by
  rcases Nat.lt_or_ge a.block w.heap.size with hh | hh
  · exact hh
  · simp [World.cell?, Array.getElem?_eq_none hh] at h

theorem info5 : (Try.prog.info? 5).map (fun i => (i.zero, i.size, i.bytes)) = some (some (.int .u8 0), 1, 1) := by kernel_rfl

theorem owns_size {w : World} {B g : Nat} {xs : List Value} {n cap : Nat} (h : w.ownsRow B 5 1 (.slice (some ⟨g, 0, none⟩) n cap) n xs) : g < w.heap.size := by
  rcases h.2 with ⟨h', _⟩ | ⟨g', cap', cur, h', _, hg, _⟩
  · simp at h'
  · simp only [Value.slice.injEq, Option.some.injEq, Addr.mk.injEq, and_true, true_and] at h'
    obtain ⟨rfl, rfl⟩ := h'
    rcases Nat.lt_or_ge g w.heap.size with hh | hh
    · exact hh
    · rw [Array.getElem?_eq_none hh] at hg; cases hg

theorem clone_step {w wr : World} {n k : Nat} {f : Nat → Int} {xs : List Value} (hk : k < n)
    (hown : wr.ownsRow w.heap.size 5 1 (.slice (some ⟨w.heap.size, 0, none⟩) n n) n xs) (hxs : ∀ j, j < k → xs[j]? = some (.int .u8 (f j))) (hbel : Below w.heap.size w wr) :
    (wr.setCell ⟨w.heap.size, k, none⟩ (.int .u8 (f k))).ownsRow w.heap.size 5 1 (.slice (some ⟨w.heap.size, 0, none⟩) n n) n (xs.set k (.int .u8 (f k))) ∧
    (∀ j, j < k + 1 → (xs.set k (.int .u8 (f k)))[j]? = some (.int .u8 (f j))) ∧ Below w.heap.size w (wr.setCell ⟨w.heap.size, k, none⟩ (.int .u8 (f k))) := by
  have hlen : xs.length = n := by simpa using hown.1
  refine ⟨(hown.stored k _).1, fun j hj => ?_, hbel.setCell (Nat.le_refl _) _⟩
  rw [List.getElem?_set]
  by_cases e : k = j
  · subst e; rw [if_pos rfl, if_pos (by omega)]
  · rw [if_neg e]; exact hxs j (by omega)

set_option maxHeartbeats 400000 in
theorem clone_any (x : Addr) (n c : Nat) (f : Nat → Int) (w : World) (hn : n ≤ 1048576) (hb : n = 0 ∨ x.block < w.heap.size) (hc : ∀ i, i < n → w.cell? (x.add i) = some (.int .u8 (f i))) :
    Calls Try.prog 13 #[.slice (some x) n c] w fun e w' => e = .returned (.slice (some ⟨w.heap.size, 0, none⟩) n n) ∧ Row w' w.heap.size 0 n f ∧ Below w.heap.size w w' ∧ w.heap.size < w'.heap.size := by
  obtain ⟨i0, hi, hz0, hz1, hz2⟩ := info_parts info5
  have q22 : ∀ (w : World) (a : Option Addr) (n c n' c' : Nat), (binOp .eql 22 (.slice a n c) (.slice none n' c')).run Try.prog w = .ok (.bool a.isNone) w := fun w a n c n' c' => Lib.run_eql_slice_nil w _ _ a n c n' c' Try.underlying22
  go_enter Try.func13, Try.ntmps13
  go_wp2_with (at_make; refine wpList_make_full _ rfl _ _ 22 rfl w.heap.size 5 i0 (.int .u8 0) 1 Try.underlying22 hi hz0 hz1 _ _ _ _ n rfl rfl rfl rfl (by rw [hz2]; omega) (by unfold maxLen; omega) (Nat.le_refl _) ?_)
  intro w1 hown1 hgrow1
  have hbel1 : Below w.heap.size w w1 := (Below.refl _ _).grown hgrow1 (Nat.le_refl _) (by intro k h; cases h)
  clear hgrow1
  go_wp2
  go_loopw [4] (fun i wr => ∃ (k : Nat) (xs : List Value), k ≤ n ∧ i = .int .i64 k ∧ wr.ownsRow w.heap.size 5 1 (.slice (some ⟨w.heap.size, 0, none⟩) n n) n xs ∧ (∀ j, j < k → xs[j]? = some (.int .u8 (f j))) ∧ Below w.heap.size w wr)
    (fun i _ => n - (intOf i).toNat)
  case atStart => exact ⟨0, _, Nat.zero_le _, rfl, hown1, fun j hj => by omega, hbel1⟩
  case round =>
    obtain ⟨k, xs, hk, rfl, hown, hxs, hbel⟩ := hrel
    by_cases hlt : k < n
    · have hbl : x.block < w.heap.size := by omega
      have hcell : wr.cell? (x.add k) = some (.int .u8 (f k)) := (hbel.cell (p := x.add k) (by unfold Addr.add; split <;> exact hbl)).trans (hc k hlt)
      have hfr := hown.frozenAt k
      have hold := hown.cellAt k (by omega)
      have hlen : xs.length = n := by simpa using hown.1
      obtain ⟨v0, hv0⟩ : ∃ v0, xs[k]? = some v0 := ⟨xs[k]'(by omega), List.getElem?_eq_getElem (by omega)⟩
      rw [hv0] at hold
      have R := clone_step hlt hown hxs hbel
      clear hv0 hown hxs hbel hown1 hbel1
      go_wp2
      go_roundw
      case rel => exact ⟨k + 1, _, by omega, by go_num, R.1, R.2.1, R.2.2⟩
      case measure => simp [intOf]; omega
    · have hkn : k = n := by omega
      subst hkn
      have hsz := owns_size hown
      have hrow : Row wr w.heap.size 0 k f := fun i hi => by rw [Nat.zero_add, hown.cellAt i (by omega)]; exact hxs i hi
      clear hown hxs hown1 hbel1
      go_wp2
      go_ret
      exact ⟨rfl, hrow, hbel, hsz⟩

set_option maxHeartbeats 400000 in
theorem clone_nil (w : World) : Calls Try.prog 13 #[.slice none 0 0] w fun e w' => w = w' ∧ e = .returned (.slice none 0 0) := by
  have q22 : ∀ (w : World) (a : Option Addr) (n c n' c' : Nat), (binOp .eql 22 (.slice a n c) (.slice none n' c')).run Try.prog w = .ok (.bool a.isNone) w := fun w a n c n' c' => Lib.run_eql_slice_nil w _ _ a n c n' c' Try.underlying22
  go_enter Try.func13, Try.ntmps13
  go_wp2
  go_ret
  exact ⟨rfl, rfl⟩

/-- What a search for the byte c among the first n answers. -/
def IdxIs (f : Nat → Int) (n : Nat) (c r : Int) : Prop := (r = -1 ∧ ∀ k, k < n → f k ≠ c) ∨ ∃ m : Nat, r = m ∧ m < n ∧ f m = c ∧ ∀ k, k < m → f k ≠ c

theorem u8_eq {a b : Int} (ha : 0 ≤ a ∧ a ≤ 255) (hb : 0 ≤ b ∧ b ≤ 255) (h : UInt8.ofNat a.toNat = b.toNat.toUInt8) : a = b := by
  have := congrArg UInt8.toNat h
  simp at this
  omega

theorem idx_is (f : Nat → Int) (n : Nat) (c : Int) (hc : 0 ≤ c ∧ c ≤ 255) (hf : ∀ i, 0 ≤ f i ∧ f i ≤ 255) : IdxIs f n c (Lib.indexByte (Lib.bytesOf ((List.range n).map f)) c.toNat.toUInt8) := by
  have hget : ∀ k, k < n → (Lib.bytesOf ((List.range n).map f))[k]? = some (UInt8.ofNat (f k).toNat) := by
    intro k hk
    simp [Lib.bytesOf, hk]
  rcases (show Lib.indexByte (Lib.bytesOf ((List.range n).map f)) c.toNat.toUInt8 < 0 ∨ 0 ≤ Lib.indexByte (Lib.bytesOf ((List.range n).map f)) c.toNat.toUInt8 from by omega) with h | h
  · have hm : Lib.indexByte (Lib.bytesOf ((List.range n).map f)) c.toNat.toUInt8 = -1 := by
      have := Lib.indexByte_ge (Lib.bytesOf ((List.range n).map f)) c.toNat.toUInt8
      omega
    refine Or.inl ⟨hm, fun k hk e => ?_⟩
    refine Lib.indexByte_none hm k ?_
    rw [hget k hk, e]
  · obtain ⟨m, hm⟩ := Int.eq_ofNat_of_zero_le h
    obtain ⟨h1, h2⟩ := Lib.indexByte_some hm
    have hmn : m < n := by
      have := (List.getElem?_eq_some_iff.1 h1).1
      simpa [Lib.bytesOf] using this
    refine Or.inr ⟨m, hm, hmn, ?_, fun k hk e => ?_⟩
    · rw [hget m hmn] at h1
      exact u8_eq (hf m) hc (Option.some.inj h1)
    · refine h2 k hk ?_
      rw [hget k (by omega), e]

theorem run_idx_none {P : Program} (w : World) (a : Addr) (c : Nat) (cv : Int) :
    (Extern.BytealgIndexByte.indexByte #[.slice (some a) 0 c, .int .u8 cv]).run P w = .ok (.int .i64 (-1)) w := by
  have hs := Lib.run_indexByteString (P := P) .empty cv w
  exact hs

set_option maxHeartbeats 400000 in
theorem idx_any (b o n c : Nat) (f : Nat → Int) (cv : Int) (w : World) (hcv : 0 ≤ cv ∧ cv ≤ 255) (hf : ∀ i, 0 ≤ f i ∧ f i ≤ 255) (hc : Row w b o n f) :
    Calls Try.prog 32 #[.slice (some ⟨b, o, none⟩) n c, .int .u8 cv] w fun e w' => w' = w ∧ ∃ r : Int, e = .returned (.int .i64 r) ∧ IdxIs f n cv r := by
  have H := idx_is f n cv hcv hf
  go_enter Try.func32, Try.ntmps32
  go_wp2
  rw [run_callFunc_extern Try.func37 (by kernel_rfl) (by kernel_rfl) (by kernel_rfl) (e := Extern.BytealgIndexByte.indexByte) (by kernel_rfl), Lib.run_indexByteSlice w b o n c ((List.range n).map f) (by simp) (fun i hi => by rw [hc i hi]; simp [hi]) cv]
  simp only [Result.andThen]
  rw [Oper.upon_value]
  go_wp2
  go_ret
  exact ⟨rfl, _, rfl, H⟩

set_option maxHeartbeats 400000 in
theorem idx_none (a : Addr) (c : Nat) (cv : Int) (w : World) :
    Calls Try.prog 32 #[.slice (some a) 0 c, .int .u8 cv] w fun e w' => w' = w ∧ e = .returned (.int .i64 (-1)) := by
  go_enter Try.func32, Try.ntmps32
  go_wp2
  rw [run_callFunc_extern Try.func37 (by kernel_rfl) (by kernel_rfl) (by kernel_rfl) (e := Extern.BytealgIndexByte.indexByte) (by kernel_rfl), run_idx_none w a c cv]
  simp only [Result.andThen]
  rw [Oper.upon_value]
  go_wp2
  go_ret
  exact ⟨rfl, rfl⟩

set_option maxHeartbeats 400000 in
theorem idx_nil (cv : Int) (w : World) :
    Calls Try.prog 32 #[.slice none 0 0, .int .u8 cv] w fun e w' => w' = w ∧ e = .returned (.int .i64 (-1)) := by
  go_enter Try.func32, Try.ntmps32
  go_wp2
  rw [run_callFunc_extern Try.func37 (by kernel_rfl) (by kernel_rfl) (by kernel_rfl) (e := Extern.BytealgIndexByte.indexByte) (by kernel_rfl), Lib.run_indexByteNil w 0 0 cv]
  simp only [Result.andThen]
  rw [Oper.upon_value]
  go_wp2
  go_ret
  exact ⟨rfl, rfl⟩

end Go.Proofs.Qxb6000374a
