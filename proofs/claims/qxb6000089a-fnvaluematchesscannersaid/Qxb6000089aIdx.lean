import Derived.Test.Qxb6000089aClone
import Derived.Lib.BytesEntry
import Derived.Lib.IndexLaws
import Derived.Laws.Externs
namespace Go.Proofs.Qxb6000089a
open Go.RowKit

/-- What a search for the byte c among the first n answers. -/
def IdxIs (f : Nat → Int) (n : Nat) (c r : Int) : Prop := (r = -1 ∧ ∀ k, k < n → f k ≠ c) ∨ ∃ m : Nat, r = m ∧ m < n ∧ f m = c ∧ ∀ k, k < m → f k ≠ c

theorem u8_eq {a b : Int} (ha : 0 ≤ a ∧ a ≤ 255) (hb : 0 ≤ b ∧ b ≤ 255) (h : UInt8.ofNat a.toNat = b.toNat.toUInt8) : a = b := by
  have := congrArg UInt8.toNat h
  simp at this
  omega

theorem idx_is (f : Nat → Int) (n : Nat) (c : Int) (hc : 0 ≤ c ∧ c ≤ 255) (hf : ∀ i, 0 ≤ f i ∧ f i ≤ 255) : IdxIs f n c (Lib.indexByte (Lib.bytesOf ((List.range n).map f)) c.toNat.toUInt8) := by
  have hget : ∀ k, k < n → (Lib.bytesOf ((List.range n).map f))[k]? = some (UInt8.ofNat (f k).toNat) := by
    intro k hk
    simp [Lib.bytesOf, hk]
  rcases (show Lib.indexByte (Lib.bytesOf ((List.range n).map f)) c.toNat.toUInt8 < 0 ∨ 0 ≤ Lib.indexByte (Lib.bytesOf ((List.range n).map f)) c.toNat.toUInt8 from by omega) with h | h
  · have hm : Lib.indexByte (Lib.bytesOf ((List.range n).map f)) c.toNat.toUInt8 = -1 := by
      have := Lib.indexByte_ge (Lib.bytesOf ((List.range n).map f)) c.toNat.toUInt8
      omega
    refine Or.inl ⟨hm, fun k hk e => ?_⟩
    refine Lib.indexByte_none hm k ?_
    rw [hget k hk, e]
  · obtain ⟨m, hm⟩ := Int.eq_ofNat_of_zero_le h
    obtain ⟨h1, h2⟩ := Lib.indexByte_some hm
    have hmn : m < n := by
      have := (List.getElem?_eq_some_iff.1 h1).1
      simpa [Lib.bytesOf] using this
    refine Or.inr ⟨m, hm, hmn, ?_, fun k hk e => ?_⟩
    · rw [hget m hmn] at h1
      exact u8_eq (hf m) hc (Option.some.inj h1)
    · refine h2 k hk ?_
      rw [hget k (by omega), e]

theorem run_idx_none {P : Program} (w : World) (a : Addr) (c : Nat) (cv : Int) :
    (Extern.BytealgIndexByte.indexByte #[.slice (some a) 0 c, .int .u8 cv]).run P w = .ok (.int .i64 (-1)) w := by
  have hs := Lib.run_indexByteString (P := P) .empty cv w
  exact hs

set_option maxHeartbeats 400000 in
theorem idx_any (b o n c : Nat) (f : Nat → Int) (cv : Int) (w : World) (hcv : 0 ≤ cv ∧ cv ≤ 255) (hf : ∀ i, 0 ≤ f i ∧ f i ≤ 255) (hc : Row w b o n f) :
    Calls Try.prog 29 #[.slice (some ⟨b, o, none⟩) n c, .int .u8 cv] w fun e w' => w' = w ∧ ∃ r : Int, e = .returned (.int .i64 r) ∧ IdxIs f n cv r := by
  have H := idx_is f n cv hcv hf
  go_enter Try.func29, Try.ntmps29
  go_wp2
  rw [run_callFunc_extern Try.func31 (by kernel_rfl) (by kernel_rfl) (by kernel_rfl) (e := Extern.BytealgIndexByte.indexByte) (by kernel_rfl), Lib.run_indexByteSlice w b o n c ((List.range n).map f) (by simp) (fun i hi => by rw [hc i hi]; simp [hi]) cv]
  simp only [Result.andThen]
  rw [Oper.upon_value]
  go_wp2
  go_ret
  exact ⟨rfl, _, rfl, H⟩

set_option maxHeartbeats 400000 in
theorem idx_none (a : Addr) (c : Nat) (cv : Int) (w : World) :
    Calls Try.prog 29 #[.slice (some a) 0 c, .int .u8 cv] w fun e w' => w' = w ∧ e = .returned (.int .i64 (-1)) := by
  go_enter Try.func29, Try.ntmps29
  go_wp2
  rw [run_callFunc_extern Try.func31 (by kernel_rfl) (by kernel_rfl) (by kernel_rfl) (e := Extern.BytealgIndexByte.indexByte) (by kernel_rfl), run_idx_none w a c cv]
  simp only [Result.andThen]
  rw [Oper.upon_value]
  go_wp2
  go_ret
  exact ⟨rfl, rfl⟩

end Go.Proofs.Qxb6000089a
