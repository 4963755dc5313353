import Derived.Test.Qxb6000089aIdx
namespace Go.Proofs.Qxb6000089a
open Go.RowKit

theorem Row.shift {w : World} {b o n : Nat} {f : Nat → Int} (h : Row w b o n f) (k : Nat) : Row w b (o + k) (n - k) (fun i => f (k + i)) := fun i hi => by
  rw [Nat.add_assoc]; exact h (k + i) (by omega)

theorem none_of_idx {f : Nat → Int} {n s k : Nat} (hno : Pl.NoneTo f s k) (h : ∀ j, j < n - k → f (k + j) ≠ 34) : Pl.NoneTo f s n :=
  Pl.none_to_quote hno (fun j h1 h2 => by have := h (j - k) (by omega); rwa [show k + (j - k) = j from by omega] at this)

theorem none_of_idx' {f : Nat → Int} {m s k : Nat} (hno : Pl.NoneTo f s k) (h : ∀ j, j < m → f (k + j) ≠ 34) : Pl.NoneTo f s (k + m) :=
  Pl.none_to_quote hno (fun j h1 h2 => by have := h (j - k) (by omega); rwa [show k + (j - k) = j from by omega] at this)

/-- Where the run of backslashes ahead of e is t long: e is escaped just where t is odd. -/
theorem esc_of_run {f : Nat → Int} {s q t e : Nat} (hsq : s ≤ q) (he : q + t + 1 = e) (hq : f q ≠ 92) (h : ∀ i, q < i → i < e → f i = 92) : Pl.esc f s e = (t % 2 == 1) := by
  have := Pl.esc_run f s q hsq (Or.inl hq) t (fun i a b => h i a (by omega))
  rwa [show q + 1 + t = e from by omega] at this

theorem flip_odd (t : Nat) : (!(t % 2 == 1)) = ((t + 1) % 2 == 1) := by
  rcases Nat.mod_two_eq_zero_or_one t with e | e
  · have : (t + 1) % 2 = 1 := by omega
    simp [e, this]
  · have : (t + 1) % 2 = 0 := by omega
    simp [e, this]

set_option maxHeartbeats 800000 in
theorem strEnd_any (b o n c s : Nat) (f : Nat → Int) (w : World) (hn : n ≤ 1048576) (hnc : n ≤ c) (hs : s < n) (hf : ∀ i, 0 ≤ f i ∧ f i ≤ 255) (hq : f s = 34) (hc : Row w b o n f) :
    Calls Try.prog 25 #[.slice (some ⟨b, o, none⟩) n c, .int .i64 s] w fun e w' => w = w' ∧ ∃ r : Nat, e = .returned (.int .i64 r) ∧ Pl.EndOr f n s r := by
  have HQ : Hid (f s = 34) := hq
  have HF : Hid (∀ i, 0 ≤ f i ∧ f i ≤ 255) := hf
  clear hq hf
  go_enter Try.func25, Try.ntmps25
  go_wp2
  go_loop [5] (fun i => ∃ k : Nat, s < k ∧ k ≤ n ∧ i = .int .i64 k ∧ Pl.NoneTo f s k ∧ Hid (f (k - 1) = 34)) (fun i => n + 2 - (intOf i).toNat)
  case atStart => exact ⟨s + 1, by omega, by omega, by go_num, Pl.none_start f s, HQ⟩
  case round =>
    obtain ⟨k, hsk, hk, rfl, hno, HK⟩ := hrel
    by_cases hlt : k < n
    · go_wp2_with fail
      refine (idx_any b (o + k) (n - k) (c - k) (fun i => f (k + i)) 34 w (by omega) (fun i => HF.out _) (hc.shift k)).mono ?_
      rintro e w' ⟨rfl, r, rfl, hr⟩
      rcases hr with ⟨rfl, hnone⟩ | ⟨m, rfl, hm, hfm, hmin⟩
      · have HN := none_of_idx hno hnone
        clear hnone
        go_wp2
        go_ret
        exact ⟨rfl, n, rfl, Or.inr ⟨HN, rfl⟩⟩
      · have HN := none_of_idx' hno hmin
        have HM : Hid (f (k + m) = 34) := hfm
        clear hmin hfm hno
        go_wp2_with fail
        go_loop [8, 9] (fun p j => ∃ (q t : Nat) (v : Bool), q + t + 1 = k + m ∧ k ≤ q + 1 ∧ p = .bool v ∧ Hid (v = (t % 2 == 1)) ∧ j = .int .i64 q ∧ Hid (∀ i, q < i → i < k + m → f i = 92)) (fun _ j => (intOf j).toNat)
        case atStart => exact ⟨k + m - 1, 0, false, by omega, by omega, rfl, rfl, by go_num, fun i h1 h2 => by omega⟩
        case round =>
          obtain ⟨q, t, v, hqt, hkq, rfl, HV, rfl, HR⟩ := hrel
          have hcell := hc q (by omega)
          have hqn : q < n := by omega
          by_cases h92 : f q = 92
          · have hb : (f q == 92) = true := by simp [h92]
            have hq0 : k ≤ q := by
              rcases Nat.lt_or_ge q k with h | h
              · have e : k - 1 = q := by omega
                have := HK.out
                rw [e] at this
                omega
              · exact h
            have HR' : Hid (∀ i, q - 1 < i → i < k + m → f i = 92) := fun i h1 h2 => by
              by_cases e : i = q
              · rw [e]; exact h92
              · exact HR.out i (by omega) h2
            have HV' : Hid ((!v) = ((t + 1) % 2 == 1)) := by rw [HV.out]; exact flip_odd t
            have HQT : Hid (q + t + 1 = k + m) := hqt
            clear h92 hqt
            go_wp2
            go_round
            case rel => exact ⟨q - 1, t + 1, !v, by have := HQT.out; omega, by omega, rfl, HV', by go_num, HR'⟩
            case measure => simp [intOf]; omega
          · have hb : (f q == 92) = false := by simp [h92]
            have HE : Hid (Pl.esc f s (k + m) = v) := by rw [HV.out]; exact esc_of_run (by omega) hqt h92 HR.out
            clear h92 HR HV hqt
            cases v with
            | false =>
              go_wp2
              go_ret
              exact ⟨rfl, k + m + 1, ret_int (by omega), Pl.fwd_close (by omega) (by omega) HN HE.out HM.out⟩
            | true =>
              have HN' : Pl.NoneTo f s (k + m + 1) := Pl.none_step HN (fun hcl => by have := hcl.2; rw [HE.out] at this; cases this)
              go_wp2
              go_round
              case rel => exact ⟨k + m + 1, by omega, by omega, by go_num, HN', HM⟩
              case measure => simp [intOf]; omega
    · have hkn : k = n := by omega
      subst hkn
      go_wp2_with fail
      all_goals
        refine (idx_none _ _ 34 w).mono ?_
        rintro e w' ⟨rfl, rfl⟩
        go_wp2
        go_ret
        exact ⟨rfl, k, rfl, Or.inr ⟨hno, rfl⟩⟩

end Go.Proofs.Qxb6000089a
