import Derived.Test.Qxb6000374aCat
import Derived.Test.Qxb6000374aPlain2
namespace Go.Proofs.Qxb6000374a
open Go.RowKit
set_option linter.unusedVariables false

/-- What valueEnd answers. -/
def BrRes (f : Nat → Int) (n s : Nat) (r : Int) : Prop := (∃ q : Nat, r = q ∧ Pl.BrEnd f n s q) ∨ (r = -1 ∧ Pl.Deep f s n)
def LitRes (f : Nat → Int) (n s : Nat) (r : Int) : Prop := ∃ q : Nat, Pl.First Pl.isDel f n s q ∧ ((q = s ∧ r = -1) ∨ (s < q ∧ r = q))
def ValRes (f : Nat → Int) (n s : Nat) (r : Int) : Prop :=
  (f s = 34 ∧ StrRes f n s r) ∨ ((f s = 123 ∨ f s = 91) ∧ BrRes f n s r) ∨ (f s ≠ 34 ∧ f s ≠ 123 ∧ f s ≠ 91 ∧ LitRes f n s r)

/-- The string of what may follow a value. -/
def delBytes : List UInt8 := [44, 58, 93, 125, 32, 9, 13, 10]

theorem u8_mem (c : Int) (hc : 0 ≤ c ∧ c ≤ 255) : (∃ k : Nat, delBytes[k]? = some c.toNat.toUInt8) ↔ Pl.isDel c = true := by
  obtain ⟨n, rfl⟩ := Int.eq_ofNat_of_zero_le hc.1
  have hn : n < 256 := by omega
  clear hc
  have key : ∀ n : Fin 256, (delBytes.contains (n.val.toUInt8)) = Pl.isDel (n.val : Int) := by decide +kernel
  have k := key ⟨n, hn⟩
  simp only at k
  rw [show ((n : Int)).toNat = n from rfl, ← k]
  rw [List.contains_iff_mem]
  constructor
  · rintro ⟨k, hk⟩; exact List.mem_of_getElem? hk
  · intro h; obtain ⟨k, hk⟩ := List.getElem?_of_mem h; exact ⟨k, hk⟩

theorem idx_del (c : Int) (hc : 0 ≤ c ∧ c ≤ 255) : (Pl.isDel c = true → 0 ≤ Lib.indexByte delBytes c.toNat.toUInt8) ∧ (Pl.isDel c = false → Lib.indexByte delBytes c.toNat.toUInt8 < 0) := by
  have hm := u8_mem c hc
  have hge := Lib.indexByte_ge delBytes c.toNat.toUInt8
  constructor
  · intro h
    obtain ⟨k, hk⟩ := hm.2 h
    rcases (show Lib.indexByte delBytes c.toNat.toUInt8 = -1 ∨ 0 ≤ Lib.indexByte delBytes c.toNat.toUInt8 from by omega) with e | e
    · exact absurd hk (Lib.indexByte_none e k)
    · exact e
  · intro h
    rcases (show Lib.indexByte delBytes c.toNat.toUInt8 < 0 ∨ 0 ≤ Lib.indexByte delBytes c.toNat.toUInt8 from by omega) with e | e
    · exact e
    · obtain ⟨m, em⟩ := Int.eq_ofNat_of_zero_le e
      have := hm.1 ⟨m, (Lib.indexByte_some em).1⟩
      rw [h] at this
      cases this

set_option maxHeartbeats 400000 in
theorem idxStr_any (c : Int) (w : World) (hc : 0 ≤ c ∧ c ≤ 255) :
    Calls Try.prog 38 #[.string ⟨#[44, 58, 93, 125, 32, 9, 13, 10]⟩, .int .u8 c] w fun e w' => w = w' ∧ ∃ r : Int, e = .returned (.int .i64 r) ∧ (Pl.isDel c = true → 0 ≤ r) ∧ (Pl.isDel c = false → r < 0) := by
  have H := idx_del c hc
  go_enter Try.func38, Try.ntmps38
  go_wp2
  rw [run_callFunc_extern Try.func40 (by kernel_rfl) (by kernel_rfl) (by kernel_rfl) (e := Extern.BytealgIndexByte.indexByte) (by kernel_rfl), Lib.run_indexByteString]
  simp only [Result.andThen]
  rw [Oper.upon_value]
  go_wp2
  go_ret
  exact ⟨rfl, _, rfl, H⟩

end Go.Proofs.Qxb6000374a
