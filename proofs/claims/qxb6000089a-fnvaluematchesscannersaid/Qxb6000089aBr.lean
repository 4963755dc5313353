import Derived.Test.Qxb6000089aSmall
namespace Go.Proofs.Qxb6000089a
open Go.RowKit

theorem br_ret {f : Nat → Int} {n s k : Nat} {x : Int} {m : Nat} (h : s ≤ k) (hk : k < n) (hd : Pl.Deep f s k) (he : Pl.st f s (k + 1) = (x, m)) (hx : x = 0) : Pl.BrOr f n s (k + 1) :=
  Or.inl ⟨by omega, by omega, by rw [he]; exact hx, hd⟩
theorem br_go {f : Nat → Int} {s k : Nat} {x : Int} {m : Nat} (hd : Pl.Deep f s k) (he : Pl.st f s (k + 1) = (x, m)) (hx : x ≠ 0) : Pl.Deep f s (k + 1) :=
  Pl.deep_step hd (by rw [he]; exact hx)

/-- The mode in the two flags. -/
def Mode (m : Nat) (ins es : Bool) : Prop := (m = 0 ∧ ins = false ∧ es = false) ∨ (m = 1 ∧ ins = true ∧ es = false) ∨ (m = 2 ∧ ins = true ∧ es = true)

set_option maxHeartbeats 1600000 in
theorem br_any (b o n c s : Nat) (f : Nat → Int) (w : World) (hn : n ≤ 1048576) (hs : s < n) (hc : Row w b o n f) :
    Calls Try.prog 26 #[.slice (some ⟨b, o, none⟩) n c, .int .i64 s] w fun e w' => w = w' ∧ ∃ r : Nat, e = .returned (.int .i64 r) ∧ Pl.BrOr f n s r := by
  go_enter Try.func26, Try.ntmps26
  go_wp2
  go_loop [5, 6, 7, 8] (fun d ins es i => ∃ (k : Nat) (x : Int) (m : Nat) (p q : Bool), s ≤ k ∧ k ≤ n ∧ i = .int .i64 k ∧ d = .int .i64 x ∧ -(k : Int) ≤ x ∧ x ≤ k ∧ Hid (Pl.st f s k = (x, m)) ∧ Pl.Deep f s k ∧ ins = .bool p ∧ es = .bool q ∧ Mode m p q) (fun _ _ _ i => n - (intOf i).toNat)
  case atStart => exact ⟨s, 0, 0, false, false, by omega, by omega, by go_num, rfl, by omega, by omega, Pl.st_start f s, Pl.deep_start f s, rfl, rfl, Or.inl ⟨rfl, rfl, rfl⟩⟩
  case round =>
    obtain ⟨k, x, m, p, q, hsk, hk, rfl, rfl, hx1, hx2, HST, hdeep, rfl, rfl, hm⟩ := hrel
    by_cases hlt : k < n
    · have hcell := hc k hlt
      rcases hm with ⟨rfl, rfl, rfl⟩ | ⟨rfl, rfl, rfl⟩ | ⟨rfl, rfl, rfl⟩
      · by_cases h34 : f k = 34
        · have b1 := btrue h34
          have E := Pl.st_quote hsk HST.out h34
          clear h34
          by_cases hx : x = 0
          · have bx := btrue hx
            have R := br_ret hsk hlt hdeep E hx
            clear hx E HST
            go_wp2
            go_ret
            exact ⟨rfl, k + 1, ret_int (by omega), R⟩
          · have bx := bfalse hx
            have R := br_go hdeep E hx
            have HE : Hid (Pl.st f s (k + 1) = (x, 1)) := E
            clear hx E HST
            go_wp2
            go_round
            case rel => exact ⟨k + 1, x, 1, true, false, by omega, by omega, by go_num, by go_num, by omega, by omega, HE, R, rfl, rfl, Or.inr (Or.inl ⟨rfl, rfl, rfl⟩)⟩
            case measure => simp [intOf]; omega
        by_cases ho : f k = 123 ∨ f k = 91
        · have E := Pl.st_open hsk HST.out ho
          have b1 := bfalse h34
          clear h34
          by_cases hx : x + 1 = 0
          · have bx := btrue hx
            have R := br_ret hsk hlt hdeep E hx
            clear hx E HST
            rcases ho with ho | ho
            · have b2 := btrue ho
              clear ho
              go_wp2
              go_ret
              exact ⟨rfl, k + 1, ret_int (by omega), R⟩
            · have b2 : (f k == 123) = false := bfalse (by omega)
              have b3 := btrue ho
              clear ho
              go_wp2
              go_ret
              exact ⟨rfl, k + 1, ret_int (by omega), R⟩
          · have bx := bfalse hx
            have R := br_go hdeep E hx
            have HE : Hid (Pl.st f s (k + 1) = (x + 1, 0)) := E
            clear hx E HST
            rcases ho with ho | ho
            · have b2 := btrue ho
              clear ho
              go_wp2
              go_round
              case rel => exact ⟨k + 1, x + 1, 0, false, false, by omega, by omega, by go_num, by go_num, by omega, by omega, HE, R, rfl, rfl, Or.inl ⟨rfl, rfl, rfl⟩⟩
              case measure => simp [intOf]; omega
            · have b2 : (f k == 123) = false := bfalse (by omega)
              have b3 := btrue ho
              clear ho
              go_wp2
              go_round
              case rel => exact ⟨k + 1, x + 1, 0, false, false, by omega, by omega, by go_num, by go_num, by omega, by omega, HE, R, rfl, rfl, Or.inl ⟨rfl, rfl, rfl⟩⟩
              case measure => simp [intOf]; omega
        have ho1 : f k ≠ 123 := fun e => ho (Or.inl e)
        have ho2 : f k ≠ 91 := fun e => ho (Or.inr e)
        clear ho
        by_cases hz : f k = 125 ∨ f k = 93
        · have E := Pl.st_shut hsk HST.out hz
          have b1 := bfalse h34
          have b2 := bfalse ho1
          have b3 := bfalse ho2
          clear h34 ho1 ho2
          by_cases hx : x - 1 = 0
          · have bx := btrue hx
            have R := br_ret hsk hlt hdeep E hx
            clear hx E HST
            rcases hz with hz | hz
            · have b4 := btrue hz
              clear hz
              go_wp2
              go_ret
              exact ⟨rfl, k + 1, ret_int (by omega), R⟩
            · have b4 : (f k == 125) = false := bfalse (by omega)
              have b5 := btrue hz
              clear hz
              go_wp2
              go_ret
              exact ⟨rfl, k + 1, ret_int (by omega), R⟩
          · have bx := bfalse hx
            have R := br_go hdeep E hx
            have HE : Hid (Pl.st f s (k + 1) = (x - 1, 0)) := E
            clear hx E HST
            rcases hz with hz | hz
            · have b4 := btrue hz
              clear hz
              go_wp2
              go_round
              case rel => exact ⟨k + 1, x - 1, 0, false, false, by omega, by omega, by go_num, by go_num, by omega, by omega, HE, R, rfl, rfl, Or.inl ⟨rfl, rfl, rfl⟩⟩
              case measure => simp [intOf]; omega
            · have b4 : (f k == 125) = false := bfalse (by omega)
              have b5 := btrue hz
              clear hz
              go_wp2
              go_round
              case rel => exact ⟨k + 1, x - 1, 0, false, false, by omega, by omega, by go_num, by go_num, by omega, by omega, HE, R, rfl, rfl, Or.inl ⟨rfl, rfl, rfl⟩⟩
              case measure => simp [intOf]; omega
        · have hz1 : f k ≠ 125 := fun e => hz (Or.inl e)
          have hz2 : f k ≠ 93 := fun e => hz (Or.inr e)
          have E := Pl.st_other hsk HST.out h34 ho1 ho2 hz1 hz2
          have b1 := bfalse h34
          have b2 := bfalse ho1
          have b3 := bfalse ho2
          have b4 := bfalse hz1
          have b5 := bfalse hz2
          clear hz h34 ho1 ho2 hz1 hz2
          by_cases hx : x = 0
          · have bx := btrue hx
            have R := br_ret hsk hlt hdeep E hx
            clear hx E HST
            go_wp2
            go_ret
            exact ⟨rfl, k + 1, ret_int (by omega), R⟩
          · have bx := bfalse hx
            have R := br_go hdeep E hx
            have HE : Hid (Pl.st f s (k + 1) = (x, 0)) := E
            clear hx E HST
            go_wp2
            go_round
            case rel => exact ⟨k + 1, x, 0, false, false, by omega, by omega, by go_num, by go_num, by omega, by omega, HE, R, rfl, rfl, Or.inl ⟨rfl, rfl, rfl⟩⟩
            case measure => simp [intOf]; omega
      · have hx : x ≠ 0 := by
          by_cases e : k = s
          · have := HST.out; rw [e, Pl.st_start] at this; simp at this
          · have := hdeep k (by omega) (Nat.le_refl _); rw [HST.out] at this; exact this
        by_cases h92 : f k = 92
        · have b1 := btrue h92
          have E := Pl.st_in_back hsk HST.out h92
          have R := br_go hdeep E hx
          have HE : Hid (Pl.st f s (k + 1) = (x, 2)) := E
          clear hx E HST h92
          go_wp2
          go_round
          case rel => exact ⟨k + 1, x, 2, true, true, by omega, by omega, by go_num, by go_num, by omega, by omega, HE, R, rfl, rfl, Or.inr (Or.inr ⟨rfl, rfl, rfl⟩)⟩
          case measure => simp [intOf]; omega
        · have b1 := bfalse h92
          by_cases h34 : f k = 34
          · have b2 := btrue h34
            have E := Pl.st_in_quote hsk HST.out h34
            have R := br_go hdeep E hx
            have HE : Hid (Pl.st f s (k + 1) = (x, 0)) := E
            clear hx E HST h92 h34
            go_wp2
            go_round
            case rel => exact ⟨k + 1, x, 0, false, false, by omega, by omega, by go_num, by go_num, by omega, by omega, HE, R, rfl, rfl, Or.inl ⟨rfl, rfl, rfl⟩⟩
            case measure => simp [intOf]; omega
          · have b2 := bfalse h34
            have E := Pl.st_in_other hsk HST.out h92 h34
            have R := br_go hdeep E hx
            have HE : Hid (Pl.st f s (k + 1) = (x, 1)) := E
            clear hx E HST h92 h34
            go_wp2
            go_round
            case rel => exact ⟨k + 1, x, 1, true, false, by omega, by omega, by go_num, by go_num, by omega, by omega, HE, R, rfl, rfl, Or.inr (Or.inl ⟨rfl, rfl, rfl⟩)⟩
            case measure => simp [intOf]; omega
      · have hx : x ≠ 0 := by
          by_cases e : k = s
          · have := HST.out; rw [e, Pl.st_start] at this; simp at this
          · have := hdeep k (by omega) (Nat.le_refl _); rw [HST.out] at this; exact this
        have E := Pl.st_in_esc hsk HST.out
        have R := br_go hdeep E hx
        have HE : Hid (Pl.st f s (k + 1) = (x, 1)) := E
        clear hx E HST
        go_wp2
        go_round
        case rel => exact ⟨k + 1, x, 1, true, false, by omega, by omega, by go_num, by go_num, by omega, by omega, HE, R, rfl, rfl, Or.inr (Or.inl ⟨rfl, rfl, rfl⟩)⟩
        case measure => simp [intOf]; omega
    · have hkn : k = n := by omega
      subst hkn
      clear hm HST
      go_wp2
      go_ret
      exact ⟨rfl, k, rfl, Or.inr ⟨hdeep, rfl⟩⟩

end Go.Proofs.Qxb6000089a
