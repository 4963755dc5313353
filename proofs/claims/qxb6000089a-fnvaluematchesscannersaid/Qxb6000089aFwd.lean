import Derived.Test.Qxb6000089aRows
import Derived.Test.Qxb6000089aPlain
import Derived.WalkKit
import Derived.WalkSpells
import Derived.WalkLawsBesides
namespace Go.Proofs.Qxb6000089a
open Go.RowKit

theorem ret_int {k : IntKind} {a b : Int} (h : a = b) : Ending.returned (.int k a) = .returned (.int k b) := by rw [h]

/-- The first n bytes at block b, from o on, are f's. -/
def Row (w : World) (b o n : Nat) (f : Nat → Int) : Prop := ∀ i, i < n → w.cell? ⟨b, o + i, none⟩ = some (.int .u8 (f i))

set_option maxHeartbeats 400000 in
theorem fwd_any (b o n c s : Nat) (f : Nat → Int) (w : World) (hn : n ≤ 1048576) (hs : s < n) (hc : Row w b o n f) :
    Calls Try.prog 12 #[.slice (some ⟨b, o, none⟩) n c, .int .i64 s] w fun e w' => w' = w ∧ ∃ r : Nat, e = .returned (.int .i64 r) ∧ Pl.EndOr f n s r := by
  go_enter Try.func12, Try.ntmps12
  go_wp2
  go_loop [5] (fun i => ∃ k : Nat, s < k ∧ k ≤ n + 1 ∧ i = .int .i64 k ∧ Pl.NoneTo f s k ∧ Pl.esc f s k = false) (fun i => n + 2 - (intOf i).toNat)
  case atStart => exact ⟨s + 1, by omega, by omega, by go_num, Pl.none_start f s, Pl.esc_start f s⟩
  case round =>
    obtain ⟨k, hsk, hk, rfl, hno, hes⟩ := hrel
    have HE : Hid (Pl.esc f s k = false) := hes
    clear hes
    by_cases hlt : k < n
    · have hcell := hc k hlt
      by_cases h92 : f k = 92
      · have hb : (f k == 92) = true := by simp [h92]
        have H := Pl.fwd_skip hsk hno HE.out h92
        clear h92
        go_wp2
        go_round
        case rel => exact ⟨k + 2, by omega, by omega, by go_num, H.1, H.2⟩
        case measure => simp [intOf]; omega
      · have hb : (f k == 92) = false := by simp [h92]
        by_cases h34 : f k = 34
        · have hq : (f k == 34) = true := by simp [h34]
          have H := Pl.fwd_close hsk hlt hno HE.out h34
          clear h34 h92
          go_wp2
          go_ret
          exact ⟨rfl, k + 1, ret_int (by omega), H⟩
        · have hq : (f k == 34) = false := by simp [h34]
          have H := Pl.fwd_plain (s := s) hno h92 h34
          clear h34 h92
          go_wp2
          go_round
          case rel => exact ⟨k + 1, by omega, by omega, by go_num, H.1, H.2⟩
          case measure => simp [intOf]; omega
    · have H := Pl.fwd_out (n := n) hno (by omega)
      go_wp2
      go_ret
      exact ⟨rfl, n, rfl, H⟩

end Go.Proofs.Qxb6000089a
