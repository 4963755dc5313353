import Derived.Test.Qxb6000089aBr
namespace Go.Proofs.Qxb6000089a
open Go.RowKit

/-- Where the next value from p on begins and ends. -/
def ValAt (f : Nat → Int) (n p s r : Nat) : Prop := Pl.First Pl.notSp f n p s ∧ (s < n → Pl.ValEnd f n s r) ∧ (n ≤ s → r = s)

theorem valAt_unique {f : Nat → Int} {n p s r s' r' : Nat} (h : ValAt f n p s r) (h' : ValAt f n p s' r') : s = s' ∧ r = r' := by
  obtain ⟨a1, a2, a3⟩ := h
  obtain ⟨b1, b2, b3⟩ := h'
  have e := Pl.first_unique a1 b1
  subst e
  refine ⟨rfl, ?_⟩
  by_cases hs : s < n
  · exact Pl.valEnd_unique (a2 hs) (b2 hs)
  · rw [a3 (by omega), b3 (by omega)]

theorem ret_two {a b c d : Int} (h1 : a = c) (h2 : b = d) : Ending.returned (.tuple #[.int .i64 a, .int .i64 b]) = .returned (.tuple #[.int .i64 c, .int .i64 d]) := by rw [h1, h2]

set_option maxHeartbeats 1600000 in
theorem model_any (b o n c p : Nat) (f : Nat → Int) (w : World) (hn : n ≤ 1048576) (hp : p ≤ n) (hc : Row w b o n f) :
    Calls Try.prog 21 #[.slice (some ⟨b, o, none⟩) n c, .int .i64 p] w fun e w' => w = w' ∧ ∃ s r : Nat, e = .returned (.tuple #[.int .i64 s, .int .i64 r]) ∧ ValAt f n p s r := by
  go_enter Try.func21, Try.ntmps21
  go_wp2
  go_loop [6] (fun i => ∃ k : Nat, p ≤ k ∧ k ≤ n ∧ i = .int .i64 k ∧ Hid (∀ j, p ≤ j → j < k → Pl.notSp (f j) = false)) (fun i => n - (intOf i).toNat)
  case atStart => exact ⟨p, by omega, by omega, by go_num, fun j h1 h2 => by omega⟩
  case round =>
    obtain ⟨k, hsk, hk, rfl, HJ⟩ := hrel
    by_cases hlt : k < n
    · have hcell := hc k hlt
      cases hd : Pl.isSp (f k) with
      | true =>
        have HD : Hid (Pl.isSp (f k) = true) := hd
        have HN : Hid (Pl.notSp (f k) = false) := by simp [Hid, Pl.notSp, hd]
        clear hd
        go_wp2_with fail
        refine (isSp_any (f k) w).mono ?_
        rintro e w' ⟨rfl, rfl⟩
        rw [HD.out]
        go_wp2
        go_round
        case rel => exact ⟨k + 1, by omega, by omega, by go_num, Pl.first_step HJ.out HN.out⟩
        case measure => simp [intOf]; omega
      | false =>
        have HD : Hid (Pl.isSp (f k) = false) := hd
        have HF : Pl.First Pl.notSp f n p k := ⟨hsk, hk, HJ.out, fun _ => by simp [Pl.notSp, hd]⟩
        clear hd HJ
        by_cases h34 : f k = 34
        · have b1 := btrue h34
          have HV : ∀ r, Pl.EndOr f n k r → Pl.ValEnd f n k r := fun r hr => Pl.valEnd_str h34 hr
          clear h34
          go_wp2_with fail
          refine (isSp_any (f k) w).mono ?_
          rintro e w' ⟨rfl, rfl⟩
          rw [HD.out]
          go_wp2_with fail
          refine (fwd_any b o n c k f w hn hlt hc).mono ?_
          rintro e w' ⟨rfl, r, rfl, hr⟩
          go_wp2
          go_ret2
          exact ⟨rfl, k, r, rfl, HF, fun _ => HV r hr, fun h => absurd h (by omega)⟩
        · by_cases ho : f k = 123 ∨ f k = 91
          · have b1 := bfalse h34
            have HV : ∀ r, Pl.BrOr f n k r → Pl.ValEnd f n k r := fun r hr => Pl.valEnd_br ho hr
            clear h34
            rcases ho with ho | ho
            · have b2 := btrue ho
              clear ho
              go_wp2_with fail
              refine (isSp_any (f k) w).mono ?_
              rintro e w' ⟨rfl, rfl⟩
              rw [HD.out]
              go_wp2_with fail
              refine (br_any b o n c k f w hn hlt hc).mono ?_
              rintro e w' ⟨rfl, r, rfl, hr⟩
              go_wp2
              go_ret2
              exact ⟨rfl, k, r, rfl, HF, fun _ => HV r hr, fun h => absurd h (by omega)⟩
            · have b2 : (f k == 123) = false := bfalse (by omega)
              have b3 := btrue ho
              clear ho
              go_wp2_with fail
              refine (isSp_any (f k) w).mono ?_
              rintro e w' ⟨rfl, rfl⟩
              rw [HD.out]
              go_wp2_with fail
              refine (br_any b o n c k f w hn hlt hc).mono ?_
              rintro e w' ⟨rfl, r, rfl, hr⟩
              go_wp2
              go_ret2
              exact ⟨rfl, k, r, rfl, HF, fun _ => HV r hr, fun h => absurd h (by omega)⟩
          · have ho1 : f k ≠ 123 := fun e => ho (Or.inl e)
            have ho2 : f k ≠ 91 := fun e => ho (Or.inr e)
            have HV : ∀ r, Pl.First Pl.isDel f n k r → Pl.ValEnd f n k r := fun r hr => Pl.valEnd_lit h34 ho1 ho2 hr
            have b1 := bfalse h34
            have b2 := bfalse ho1
            have b3 := bfalse ho2
            clear ho h34 ho1 ho2
            go_wp2_with fail
            refine (isSp_any (f k) w).mono ?_
            rintro e w' ⟨rfl, rfl⟩
            rw [HD.out]
            go_wp2_with fail
            refine (lit_any b o n c k f w hn (by omega) hc).mono ?_
            rintro e w' ⟨rfl, r, rfl, hr⟩
            go_wp2
            go_ret2
            exact ⟨rfl, k, r, rfl, HF, fun _ => HV r hr, fun h => absurd h (by omega)⟩
    · have HF : Pl.First Pl.notSp f n p k := ⟨hsk, hk, HJ.out, fun h => absurd h hlt⟩
      clear HJ
      go_wp2
      go_ret2
      exact ⟨rfl, k, k, rfl, HF, fun h => absurd h hlt, fun _ => rfl⟩

end Go.Proofs.Qxb6000089a
