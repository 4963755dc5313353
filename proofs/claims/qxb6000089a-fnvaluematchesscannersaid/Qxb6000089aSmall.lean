import Derived.Test.Qxb6000089aStr
import Derived.Test.Qxb6000089aPlain2
namespace Go.Proofs.Qxb6000089a
open Go.RowKit

theorem ret_bool {a b : Bool} (h : a = b) : Ending.returned (.bool a) = .returned (.bool b) := by rw [h]
theorem bfalse {a b : Int} (h : a ≠ b) : (a == b) = false := by simp [h]
theorem btrue {a b : Int} (h : a = b) : (a == b) = true := by simp [h]

set_option maxHeartbeats 400000 in
theorem isSp_any (c : Int) (w : World) : Calls Try.prog 18 #[.int .u8 c] w fun e w' => w = w' ∧ e = .returned (.bool (Pl.isSp c)) := by
  by_cases h1 : c = 32
  · subst h1; go_enter Try.func18, Try.ntmps18; go_wp2; go_ret; exact ⟨rfl, rfl⟩
  by_cases h2 : c = 9
  · subst h2; go_enter Try.func18, Try.ntmps18; go_wp2; go_ret; exact ⟨rfl, rfl⟩
  by_cases h3 : c = 10
  · subst h3; go_enter Try.func18, Try.ntmps18; go_wp2; go_ret; exact ⟨rfl, rfl⟩
  by_cases h4 : c = 13
  · subst h4; go_enter Try.func18, Try.ntmps18; go_wp2; go_ret; exact ⟨rfl, rfl⟩
  have b1 := bfalse h1; have b2 := bfalse h2; have b3 := bfalse h3; have b4 := bfalse h4
  have hv : Hid (Pl.isSp c = false) := by simp [Hid, Pl.isSp, h1, h2, h3, h4]
  clear h1 h2 h3 h4
  go_enter Try.func18, Try.ntmps18
  go_wp2
  go_ret
  exact ⟨rfl, ret_bool hv.out.symm⟩

set_option maxHeartbeats 400000 in
theorem endsLit_any (c : Int) (w : World) : Calls Try.prog 30 #[.int .u8 c] w fun e w' => w = w' ∧ e = .returned (.bool (Pl.isDel c)) := by
  cases hs : Pl.isSp c with
  | true =>
    have hd := Pl.isDel_of_isSp hs
    have HD : Hid (Pl.isDel c = true) := hd
    have HS : Hid (Pl.isSp c = true) := hs
    clear hs hd
    go_enter Try.func30, Try.ntmps30
    go_wp2_with fail
    refine (isSp_any c w).mono ?_
    rintro e w' ⟨rfl, rfl⟩
    rw [HS.out]
    go_wp2
    go_ret
    exact ⟨rfl, ret_bool HD.out.symm⟩
  | false =>
    have hn : ¬ (c = 32 ∨ c = 9 ∨ c = 10 ∨ c = 13) := by simpa [Pl.isSp] using hs
    have HS : Hid (Pl.isSp c = false) := hs
    clear hs
    by_cases h1 : c = 44
    · subst h1; go_enter Try.func30, Try.ntmps30; go_wp2_with fail; refine (isSp_any 44 w).mono ?_; rintro e w' ⟨rfl, rfl⟩; rw [HS.out]; go_wp2; go_ret; exact ⟨rfl, rfl⟩
    by_cases h2 : c = 125
    · subst h2; go_enter Try.func30, Try.ntmps30; go_wp2_with fail; refine (isSp_any 125 w).mono ?_; rintro e w' ⟨rfl, rfl⟩; rw [HS.out]; go_wp2; go_ret; exact ⟨rfl, rfl⟩
    by_cases h3 : c = 93
    · subst h3; go_enter Try.func30, Try.ntmps30; go_wp2_with fail; refine (isSp_any 93 w).mono ?_; rintro e w' ⟨rfl, rfl⟩; rw [HS.out]; go_wp2; go_ret; exact ⟨rfl, rfl⟩
    have b1 := bfalse h1; have b2 := bfalse h2; have b3 := bfalse h3
    have HD : Hid (Pl.isDel c = false) := by simp only [Hid, Pl.isDel, decide_eq_false_iff_not]; omega
    clear hn h1 h2 h3
    go_enter Try.func30, Try.ntmps30
    go_wp2_with fail
    refine (isSp_any c w).mono ?_
    rintro e w' ⟨rfl, rfl⟩
    rw [HS.out]
    go_wp2
    go_ret
    exact ⟨rfl, ret_bool HD.out.symm⟩

set_option maxHeartbeats 400000 in
theorem isDel_any (c : Int) (w : World) : Calls Try.prog 28 #[.int .u8 c] w fun e w' => w = w' ∧ e = .returned (.bool (Pl.isDel c)) := by
  by_cases h1 : c = 32
  · subst h1; go_enter Try.func28, Try.ntmps28; go_wp2; go_ret; exact ⟨rfl, rfl⟩
  by_cases h2 : c = 9
  · subst h2; go_enter Try.func28, Try.ntmps28; go_wp2; go_ret; exact ⟨rfl, rfl⟩
  by_cases h3 : c = 10
  · subst h3; go_enter Try.func28, Try.ntmps28; go_wp2; go_ret; exact ⟨rfl, rfl⟩
  by_cases h4 : c = 13
  · subst h4; go_enter Try.func28, Try.ntmps28; go_wp2; go_ret; exact ⟨rfl, rfl⟩
  by_cases h5 : c = 44
  · subst h5; go_enter Try.func28, Try.ntmps28; go_wp2; go_ret; exact ⟨rfl, rfl⟩
  by_cases h6 : c = 125
  · subst h6; go_enter Try.func28, Try.ntmps28; go_wp2; go_ret; exact ⟨rfl, rfl⟩
  by_cases h7 : c = 93
  · subst h7; go_enter Try.func28, Try.ntmps28; go_wp2; go_ret; exact ⟨rfl, rfl⟩
  have b1 := bfalse h1; have b2 := bfalse h2; have b3 := bfalse h3; have b4 := bfalse h4; have b5 := bfalse h5; have b6 := bfalse h6; have b7 := bfalse h7
  have HD : Hid (Pl.isDel c = false) := by simp only [Hid, Pl.isDel, decide_eq_false_iff_not]; omega
  clear h1 h2 h3 h4 h5 h6 h7
  go_enter Try.func28, Try.ntmps28
  go_wp2
  go_ret
  exact ⟨rfl, ret_bool HD.out.symm⟩

set_option maxHeartbeats 400000 in
theorem lit_any (b o n c s : Nat) (f : Nat → Int) (w : World) (hn : n ≤ 1048576) (hs : s ≤ n) (hc : Row w b o n f) :
    Calls Try.prog 27 #[.slice (some ⟨b, o, none⟩) n c, .int .i64 s] w fun e w' => w = w' ∧ ∃ r : Nat, e = .returned (.int .i64 r) ∧ Pl.First Pl.isDel f n s r := by
  go_enter Try.func27, Try.ntmps27
  go_wp2
  go_loop [5] (fun i => ∃ k : Nat, s ≤ k ∧ k ≤ n ∧ i = .int .i64 k ∧ Hid (∀ j, s ≤ j → j < k → Pl.isDel (f j) = false)) (fun i => n - (intOf i).toNat)
  case atStart => exact ⟨s, by omega, by omega, by go_num, fun j h1 h2 => by omega⟩
  case round =>
    obtain ⟨k, hsk, hk, rfl, HJ⟩ := hrel
    by_cases hlt : k < n
    · have hcell := hc k hlt
      cases hd : Pl.isDel (f k) with
      | true =>
        have HD : Hid (Pl.isDel (f k) = true) := hd
        clear hd
        go_wp2_with fail
        refine (endsLit_any (f k) w).mono ?_
        rintro e w' ⟨rfl, rfl⟩
        rw [HD.out]
        go_wp2
        go_ret
        exact ⟨rfl, k, rfl, hsk, hk, HJ.out, fun _ => HD.out⟩
      | false =>
        have HD : Hid (Pl.isDel (f k) = false) := hd
        clear hd
        go_wp2_with fail
        refine (endsLit_any (f k) w).mono ?_
        rintro e w' ⟨rfl, rfl⟩
        rw [HD.out]
        go_wp2
        go_round
        case rel => exact ⟨k + 1, by omega, by omega, by go_num, Pl.first_step HJ.out HD.out⟩
        case measure => simp [intOf]; omega
    · go_wp2
      go_ret
      exact ⟨rfl, k, rfl, hsk, hk, HJ.out, fun h => absurd h hlt⟩

end Go.Proofs.Qxb6000089a
