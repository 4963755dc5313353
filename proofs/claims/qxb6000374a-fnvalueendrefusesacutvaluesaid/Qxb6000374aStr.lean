import Derived.Test.Qxb6000374aBase
import Derived.Test.Qxb6000374aPlain
namespace Go.Proofs.Qxb6000374a
open Go.RowKit

/-- What StringEnd answers: the place just past the closing quote; -1 where there is none. -/
def StrRes (f : Nat → Int) (n s : Nat) (r : Int) : Prop := (∃ q : Nat, r = q ∧ Pl.StrEnd f n s q) ∨ (r = -1 ∧ Pl.NoneTo f s n)

theorem strRes_unique {f : Nat → Int} {n s : Nat} {r r' : Int} (h : StrRes f n s r) (h' : StrRes f n s r') : r = r' := by
  rcases h with ⟨q, rfl, h⟩ | ⟨rfl, h⟩ <;> rcases h' with ⟨q', rfl, h'⟩ | ⟨rfl, h'⟩
  · rw [Pl.strEnd_unique h h']
  · obtain ⟨a1, a2, a3, _⟩ := h
    exact absurd a3 (h' (q - 1) (by omega) (by omega))
  · obtain ⟨a1, a2, a3, _⟩ := h'
    exact absurd a3 (h (q' - 1) (by omega) (by omega))
  · rfl

theorem strRes_close {f : Nat → Int} {n s k : Nat} (hs : s < k) (hk : k < n) (h : Pl.NoneTo f s k) (he : Pl.esc f s k = false) (hq : f k = 34) : StrRes f n s ((k : Int) + 1) :=
  Or.inl ⟨k + 1, by omega, by omega, by omega, ⟨hq, he⟩, h⟩

set_option maxHeartbeats 400000 in
theorem fwd_any (b o n c s : Nat) (f : Nat → Int) (w : World) (hn : n ≤ 1048576) (hs : s < n) (hc : Row w b o n f) :
    Calls Try.prog 15 #[.slice (some ⟨b, o, none⟩) n c, .int .i64 s] w fun e w' => w = w' ∧ ∃ r : Int, e = .returned (.int .i64 r) ∧ StrRes f n s r := by
  go_enter Try.func15, Try.ntmps15
  go_wp2
  go_loop [5] (fun i => ∃ k : Nat, s < k ∧ k ≤ n + 1 ∧ i = .int .i64 k ∧ Pl.NoneTo f s k ∧ Pl.esc f s k = false) (fun i => n + 2 - (intOf i).toNat)
  case atStart => exact ⟨s + 1, by omega, by omega, by go_num, Pl.none_start f s, Pl.esc_start f s⟩
  case round =>
    obtain ⟨k, hsk, hk, rfl, hno, hes⟩ := hrel
    have HE : Hid (Pl.esc f s k = false) := hes
    clear hes
    by_cases hlt : k < n
    · have hcell := hc k hlt
      by_cases h34 : f k = 34
      · have hq := btrue h34
        have H := strRes_close hsk hlt hno HE.out h34
        clear h34
        go_wp2
        go_ret
        exact ⟨rfl, _, rfl, H⟩
      · have hq := bfalse h34
        by_cases h92 : f k = 92
        · have hb := btrue h92
          have H := Pl.fwd_skip hsk hno HE.out h92
          clear h92 h34
          go_wp2
          go_round
          case rel => exact ⟨k + 2, by omega, by omega, by go_num, H.1, H.2⟩
          case measure => simp [intOf]; omega
        · have hb := bfalse h92
          have H := Pl.fwd_plain (s := s) hno h92 h34
          clear h34 h92
          go_wp2
          go_round
          case rel => exact ⟨k + 1, by omega, by omega, by go_num, H.1, H.2⟩
          case measure => simp [intOf]; omega
    · have H : StrRes f n s (-1) := Or.inr ⟨rfl, Pl.none_mono hno (by omega)⟩
      go_wp2
      go_ret
      exact ⟨rfl, _, rfl, H⟩

theorem none_of_idx {f : Nat → Int} {n s k : Nat} (hno : Pl.NoneTo f s k) (h : ∀ j, j < n - k → f (k + j) ≠ 34) : Pl.NoneTo f s n :=
  Pl.none_to_quote hno (fun j h1 h2 => by have := h (j - k) (by omega); rwa [show k + (j - k) = j from by omega] at this)

theorem none_of_idx' {f : Nat → Int} {m s k : Nat} (hno : Pl.NoneTo f s k) (h : ∀ j, j < m → f (k + j) ≠ 34) : Pl.NoneTo f s (k + m) :=
  Pl.none_to_quote hno (fun j h1 h2 => by have := h (j - k) (by omega); rwa [show k + (j - k) = j from by omega] at this)

/-- Where the run of backslashes ahead of e is t long: e is escaped just where t is odd. -/
theorem esc_of_run {f : Nat → Int} {s q t e : Nat} (hsq : s ≤ q) (he : q + t + 1 = e) (hq : f q ≠ 92) (h : ∀ i, q < i → i < e → f i = 92) : Pl.esc f s e = (t % 2 == 1) := by
  have := Pl.esc_run f s q hsq (Or.inl hq) t (fun i a b => h i a (by omega))
  rwa [show q + 1 + t = e from by omega] at this

theorem flip_odd (t : Nat) : (!(t % 2 == 1)) = ((t + 1) % 2 == 1) := by
  rcases Nat.mod_two_eq_zero_or_one t with e | e
  · have : (t + 1) % 2 = 1 := by omega
    simp [e, this]
  · have : (t + 1) % 2 = 0 := by omega
    simp [e, this]


set_option maxHeartbeats 800000 in
theorem strEnd_any (b o n c s : Nat) (f : Nat → Int) (w : World) (hn : n ≤ 1048576) (hnc : n ≤ c) (hs : s < n) (hf : ∀ i, 0 ≤ f i ∧ f i ≤ 255) (hq : f s = 34) (hc : Row w b o n f) :
    Calls Try.prog 14 #[.slice (some ⟨b, o, none⟩) n c, .int .i64 s] w fun e w' => w = w' ∧ ∃ r : Int, e = .returned (.int .i64 r) ∧ StrRes f n s r := by
  have HQ : Hid (f s = 34) := hq
  have HF : Hid (∀ i, 0 ≤ f i ∧ f i ≤ 255) := hf
  clear hq hf
  go_enter Try.func14, Try.ntmps14
  go_wp2
  go_loop [5] (fun i => ∃ k : Nat, s < k ∧ k ≤ n ∧ i = .int .i64 k ∧ Pl.NoneTo f s k ∧ Hid (f (k - 1) = 34)) (fun i => n + 2 - (intOf i).toNat)
  case atStart => exact ⟨s + 1, by omega, by omega, by go_num, Pl.none_start f s, HQ⟩
  case round =>
    obtain ⟨k, hsk, hk, rfl, hno, HK⟩ := hrel
    by_cases hlt : k < n
    · go_wp2_with fail
      refine (idx_any b (o + k) (n - k) (c - k) (fun i => f (k + i)) 34 w (by omega) (fun i => HF.out _) (hc.shift k)).mono ?_
      rintro e w' ⟨rfl, r, rfl, hr⟩
      rcases hr with ⟨rfl, hnone⟩ | ⟨m, rfl, hm, hfm, hmin⟩
      · have HN := none_of_idx hno hnone
        clear hnone
        go_wp2
        go_ret
        exact ⟨rfl, _, rfl, Or.inr ⟨rfl, HN⟩⟩
      · have HN := none_of_idx' hno hmin
        have HM : Hid (f (k + m) = 34) := hfm
        clear hmin hfm hno
        go_wp2_with fail
        go_loop [7] (fun es => ∃ t : Nat, t ≤ m ∧ es = .int .i64 t ∧ Hid (∀ i, k + m - 1 - t < i → i < k + m → f i = 92)) (fun es => m + 1 - (intOf es).toNat)
        case atStart => exact ⟨0, by omega, rfl, fun i h1 h2 => by omega⟩
        case round =>
          obtain ⟨t, htm, rfl, HR⟩ := hrel
          have hcell := hc (k + m - 1 - t) (by omega)
          by_cases h92 : f (k + m - 1 - t) = 92
          · have hb := btrue h92
            have hlt2 : t < m := by
              rcases Nat.lt_or_ge t m with h | h
              · exact h
              · have e : k + m - 1 - t = k - 1 := by omega
                rw [e, HK.out] at h92
                omega
            have HR' : Hid (∀ i, k + m - 1 - (t + 1) < i → i < k + m → f i = 92) := fun i h1 h2 => by
              by_cases e : i = k + m - 1 - t
              · rw [e]; exact h92
              · exact HR.out i (by omega) h2
            clear h92
            go_wp2
            go_round
            case rel => exact ⟨t + 1, by omega, by go_num, HR'⟩
            case measure => simp [intOf]; omega
          · have hb := bfalse h92
            have HE : Hid (Pl.esc f s (k + m) = (t % 2 == 1)) := esc_of_run (q := k + m - 1 - t) (by omega) (by omega) h92 HR.out
            clear h92 HR
            rcases Nat.mod_two_eq_zero_or_one t with et | et
            · have bt : ((t : Int) % 2 == 0) = true := btrue (by omega)
              have H := strRes_close (n := n) (show s < k + m by omega) (by omega) HN (by rw [HE.out, et]; rfl) HM.out
              clear et
              go_wp2
              go_ret
              exact ⟨rfl, ((k + m : Nat) : Int) + 1, ret_int (by omega), H⟩
            · have bt : ((t : Int) % 2 == 0) = false := bfalse (by omega)
              have HN' : Pl.NoneTo f s (k + m + 1) := Pl.none_step HN (fun hcl => by have := hcl.2; rw [HE.out, et] at this; cases this)
              clear et
              go_wp2
              go_round
              case rel => exact ⟨k + m + 1, by omega, by omega, by go_num, HN', HM⟩
              case measure => simp [intOf]; omega
    · have hkn : k = n := by omega
      subst hkn
      go_wp2
      go_ret
      exact ⟨rfl, _, rfl, Or.inr ⟨rfl, hno⟩⟩

end Go.Proofs.Qxb6000374a
